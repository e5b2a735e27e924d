/- Lists in blocks of their own; regions whose order is open by what holds and by what each operation leaves; items and steps in memory. -/
import Derived.Test.YtboeldlilkeihaaMix
import Derived.Test.YtboeldlilkeihaaPln
import Derived.Deep.AppendLies
import Derived.OwnWalk
import Derived.Maps.AppendAt
import Derived.OrdersHeld
set_option linter.unusedSimpArgs false
set_option linter.unusedVariables false
/- Slices of structs that a call makes by append: what they hold, as a list. An append at a step of a region whose order is open. No program in sight. -/
namespace Go
open Go.RowKit
namespace Bx
def boxV (r : R) : List Value := [.int .i64 r.x0, .int .i64 r.y0, .int .i64 r.x1, .int .i64 r.y1]
theorem boxV_len (r : R) : (boxV r).length = 4 := rfl
theorem boxV_one (r : R) : ∀ u ∈ boxV r, u.oneCell' = true := by
  intro u hu
  simp [boxV] at hu
  rcases hu with rfl | rfl | rfl | rfl <;> rfl
end Bx
theorem flat_get {α : Type} (f : α → List Value) (size : Nat) (hf : ∀ x, (f x).length = size) : ∀ (L : List α) (i j : Nat) (x : α), L[i]? = some x → j < size → (L.flatMap f)[i * size + j]? = (f x)[j]?
  | [], i, j, x, h, _ => by simp at h
  | y :: L, 0, j, x, h, hj => by
    simp only [List.getElem?_cons_zero, Option.some.injEq] at h
    subst h
    rw [List.flatMap_cons, Nat.zero_mul, Nat.zero_add, List.getElem?_append_left (by rw [hf]; exact hj)]
  | y :: L, i + 1, j, x, h, hj => by
    rw [List.getElem?_cons_succ] at h
    rw [List.flatMap_cons, List.getElem?_append_right (by rw [hf, Nat.succ_mul]; omega), hf]
    have := flat_get f size hf L i j x h hj
    rw [← this]
    congr 1
    rw [Nat.succ_mul]; omega
theorem flat_len {α : Type} (f : α → List Value) (size : Nat) (hf : ∀ x, (f x).length = size) (L : List α) : (L.flatMap f).length = L.length * size := by
  induction L with
  | nil => simp
  | cons x L ih => rw [List.flatMap_cons, List.length_append, ih, hf, List.length_cons, Nat.succ_mul]; omega

/-- The slice v holds the list L, each entry as f says, in a block of the call's own. -/
structure World.Row {α : Type} (w : World) (base : Nat) (e : TypeId) (size : Nat) (f : α → List Value) (v : Value) (L : List α) : Prop where
  len : ∀ x, (f x).length = size
  own : w.ownsRow base e size v L.length (L.flatMap f)

namespace World.Row
section
variable {α : Type} {w : World} {base : Nat} {e : TypeId} {size : Nat} {f : α → List Value} {v : Value} {L : List α}
theorem nil (hf : ∀ x, (f x).length = size) : w.Row base e size f (.slice none 0 0) [] := ⟨hf, World.ownsRow_nil _ _ _ _⟩
/-- A list of no entries in a block of its own. -/
theorem made (hf : ∀ x, (f x).length = size) (g : Nat) (hb : base ≤ g) (hg : w.heap[g]? = some (.cells #[] e (0, 0))) : w.Row base e size f (.slice (some ⟨g, 0, none⟩) 0 0) [] :=
  ⟨hf, by simp, .inr ⟨g, 0, #[], rfl, hb, hg, Nat.le_refl _, by simp [maxLen], by simp, by simp⟩⟩
theorem kept {w' : World} {row : Option Nat} (h : w.Row base e size f v L) (hg : w.grownBy w' row) (hne : v.ownBlock = none ∨ v.ownBlock ≠ row) : w'.Row base e size f v L := ⟨h.len, h.own.kept hg hne⟩
theorem lt (h : w.Row base e size f v L) : ∀ k, v.ownBlock = some k → base ≤ k ∧ k < w.heap.size := h.own.lt
theorem of_block {w' : World} (h : w.Row base e size f v L) (hb : ∀ k, v.ownBlock = some k → w'.heap[k]? = w.heap[k]?) : w'.Row base e size f v L := by
  refine ⟨h.len, h.own.1, ?_⟩
  rcases h.own.2 with h | ⟨g, cap, cur, rfl, h1, h2, h3⟩
  · exact .inl h
  · exact .inr ⟨g, cap, cur, rfl, h1, (hb g rfl).trans h2, h3⟩
theorem ex {w' : World} (h : w.Row base e size f v L) (hx : Mix.Ex w w') : w'.Row base e size f v L :=
  h.of_block fun k hk => by obtain ⟨x, rfl⟩ := hx; exact World.heap_ext _ _ _ (h.lt k hk).2
theorem form (h : w.Row base e size f v L) : (v = .slice none 0 0 ∧ L = []) ∨ ∃ g cap, v = .slice (some ⟨g, 0, none⟩) L.length cap ∧ base ≤ g ∧ g < w.heap.size ∧ L.length ≤ cap ∧ cap ≤ maxLen := by
  rcases h.own.2 with ⟨h1, h2⟩ | ⟨g, cap, cur, rfl, h1, h2, h3, h4, _⟩
  · exact .inl ⟨h1, List.eq_nil_of_length_eq_zero h2⟩
  · exact .inr ⟨g, cap, rfl, h1, (Array.getElem?_eq_some_iff.1 h2).1, h3, h4⟩
/-- A cell of an entry. -/
theorem cell {g n cap : Nat} (h : w.Row base e size f (.slice (some ⟨g, 0, none⟩) n cap) L) {i j : Nat} {x : α} {u : Value} (hi : L[i]? = some x) (hu : (f x)[j]? = some u) : w.cell? ⟨g, i * size + j, none⟩ = some u := by
  have hj : j < size := by rw [← h.len x]; exact (List.getElem?_eq_some_iff.1 hu).1
  have := h.own.cells (g := g) rfl (i * size + j) u (by rw [flat_get f size h.len L i j x hi hj, hu])
  have hadd : (⟨g, 0, none⟩ : Addr).add (i * size + j) = ⟨g, i * size + j, none⟩ := by unfold Addr.add; split <;> simp_all
  rw [← hadd]; exact this
end
end World.Row

namespace Mix
theorem Ex.grown {a b c : World} {row : Option Nat} (h : Ex a b) (hg : b.grownBy c row) (hr : ∀ k, row = some k → a.heap.size ≤ k) : Ex a c := .of_below (h.below.grown hg h.below.size hr)
section
variable {P : Program} {ops : Array Oper} {S C : World → Prop}
/-- An append of one entry, at a step of a region whose order is open. -/
theorem wpTl_append {α : Type} {Q : Act → World → Prop} {k : Nat} {ks : List Nat} {o : Oper} {l : List Oper} {a : Act} {w : World} (s x : Operand) (t : TypeId)
    (ho : o.op = .call { callee := .builtin .append, args := #[s, x], argTypes := #[t, t] })
    (base : Nat) (e : TypeId) (i : TypeInfo) (z : Value) (size bytes : Nat) (ht : P.underlying t = some (.slice e)) (hi : P.info? e = some i) (hz : i.zero = some z)
    (hsize : i.size = size) (hby : i.bytes = bytes) (hzs : z.cells.size = size) (hsz : 0 < size)
    (f : α → List Value) (v : Value) (L : List α) (y : α) (hs : a.eval s = v) (hown : w.Row base e size f v L)
    (ad : Addr) (c : Nat) (hx : a.eval x = .slice (some ad) 1 c) (hnews : ∀ j u, (f y)[j]? = some u → w.cell? (ad.add j) = some u) (h1 : ∀ u ∈ f y, u.oneCell' = true)
    (h63 : L.length + 1 ≤ maxLen) (hbytes : (L.length + 1) * bytes ≤ 140737488355328) (hbase : base ≤ w.heap.size)
    (h : ∀ g cap w', w'.Row base e size f (.slice (some ⟨g, 0, none⟩) (L.length + 1) cap) (L ++ [y]) → w.grownBy w' v.ownBlock → (v.ownBlock = some g ∨ g = w.heap.size) → g < w'.heap.size →
      S w' ∧ wpQuiet P ops C (fun a2 => wpTl P Dr S C ops Q ks (l.drop k) a2 w') (l.take k) (a.put o.dst (.slice (some ⟨g, 0, none⟩) (L.length + 1) cap))) :
    wpTl P Dr S C ops Q (k :: ks) (o :: l) a w := by
  refine wpTl_dr (fun n K hK => ?_)
  obtain ⟨g, cap, w', hr, h2, h3, h4, h5⟩ := run_append_lies (P := P) (w.drewN n) t o.type base e i z size bytes ht hi hz hsize hby hzs hsz v L.length (L.flatMap f) hown.own ad 1 c (f y) (by rw [hown.len]; omega) hnews h1 (by omega) h63 hbytes hbase _ rfl
  obtain ⟨h6, h7⟩ := h g cap w' ⟨hown.len, by rw [List.length_append, List.length_singleton, List.flatMap_append, List.flatMap_singleton]; exact h2⟩ ⟨h3.os, h3.tape, h3.output, h3.size, h3.block⟩ h4 h5
  unfold execOp
  simp only [ho, resolve, invoke, builtin, Sem.run_bind, Sem.run_pure, Result.andThen_ok, List.map_toArray, List.map_cons, List.map_nil, hs, hx, hr]
  exact ⟨w', Dr.refl _, h6, hK _ _ h6 h7⟩
end
/-- Reads of what was there when the call began (in w0), beside writes to what the call has made. -/
theorem wp_region_own {P : Program} (w0 : World) {id : Nat} {l : List Oper} {Q : Exit → Act → World → Prop} {a : Act} {w : World} (n : Nat) (ks : List Nat) (hm : P.follows .mixedOrders = true) (hB : freeB l n ks = true) (hs : Ex w0 w)
    (h : wpQuiet P l.toArray (fun W => ∃ x, W = w0.ext x) (fun a' => wpTl P Dr (Ex w0) (fun W => ∃ x, W = w0.ext x) l.toArray (fun a w' => ∀ n, Q .normal a (w'.drewN n)) ks (l.drop n) a' w) (l.take n) a) :
    (Code.region id l.toArray true).wp P Q a w := by
  refine wp_region_free n ks hm hB Dr (Ex w0) (fun W => ∃ x, W = w0.ext x) (fun _ h => h) Dr.refl (fun w W h k => h.trans (.of_dr k)) ⟨1, rfl⟩ hs ?_
  have : (fun a (w' : World) => ∀ W, Dr w' W → Q .normal a W) = (fun a w' => ∀ n, Q .normal a (w'.drewN n)) := by
    funext a' w'
    simp only [Dr, forall_exists_index, eq_iff_iff]
    exact ⟨fun h n => h _ n rfl, fun h W n hW => hW ▸ h n⟩
  rw [this]
  exact h
end Mix
/-- An append of one entry, at a plain region's list. -/
theorem wpList_append_row {P : Program} {α : Type} (w : World) {ops : Array Oper} {rest : List Oper} {o : Oper} {a : Act} {Q : Exit → Act → World → Prop} (hgd : o.guard = none) (s x : Operand) (t : TypeId)
    (ho : o.op = .call { callee := .builtin .append, args := #[s, x], argTypes := #[t, t] })
    (base : Nat) (e : TypeId) (i : TypeInfo) (z : Value) (size bytes : Nat) (ht : P.underlying t = some (.slice e)) (hi : P.info? e = some i) (hz : i.zero = some z)
    (hsize : i.size = size) (hby : i.bytes = bytes) (hzs : z.cells.size = size) (hsz : 0 < size)
    (f : α → List Value) (v : Value) (L : List α) (y : α) (hs : a.eval s = v) (hown : w.Row base e size f v L)
    (ad : Addr) (c : Nat) (hx : a.eval x = .slice (some ad) 1 c) (hnews : ∀ j u, (f y)[j]? = some u → w.cell? (ad.add j) = some u) (h1 : ∀ u ∈ f y, u.oneCell' = true)
    (h63 : L.length + 1 ≤ maxLen) (hbytes : (L.length + 1) * bytes ≤ 140737488355328) (hbase : base ≤ w.heap.size)
    (h : ∀ g cap w', w'.Row base e size f (.slice (some ⟨g, 0, none⟩) (L.length + 1) cap) (L ++ [y]) → w.grownBy w' v.ownBlock → (v.ownBlock = some g ∨ g = w.heap.size) → g < w'.heap.size →
      wpList P ops Q rest (a.put o.dst (.slice (some ⟨g, 0, none⟩) (L.length + 1) cap)) w') :
    wpList P ops Q (o :: rest) a w :=
  wpList_append_lies w hgd s x t ho base e i z size bytes ht hi hz hsize hby hzs hsz v L.length (L.flatMap f) hs hown.own ad 1 c (f y) hx (by rw [hown.len]; omega) hnews h1 (by omega) h63 hbytes hbase _ rfl
    fun g cap w' h2 h3 h4 h5 => h g cap w' ⟨hown.len, by rw [List.length_append, List.length_singleton, List.flatMap_append, List.flatMap_singleton]; exact h2⟩ h3 h4 h5
end Go
/- An append of a whole list of entries. No program in sight. -/
namespace Go
open Go.RowKit
namespace Mix
section
variable {P : Program} {ops : Array Oper} {S C : World → Prop}
/-- An append of a list of entries, at a step of a region whose order is open. -/
theorem wpTl_append_list {α : Type} {Q : Act → World → Prop} {k : Nat} {ks : List Nat} {o : Oper} {l : List Oper} {a : Act} {w : World} (s x : Operand) (t : TypeId)
    (ho : o.op = .call { callee := .builtin .append, args := #[s, x], argTypes := #[t, t] })
    (base : Nat) (e : TypeId) (i : TypeInfo) (z : Value) (size bytes : Nat) (ht : P.underlying t = some (.slice e)) (hi : P.info? e = some i) (hz : i.zero = some z)
    (hsize : i.size = size) (hby : i.bytes = bytes) (hzs : z.cells.size = size) (hsz : 0 < size)
    (f : α → List Value) (v : Value) (L M : List α) (hs : a.eval s = v) (hown : w.Row base e size f v L)
    (ad : Addr) (m c : Nat) (hm : M.length = m) (hx : a.eval x = .slice (some ad) m c) (hnews : ∀ j u, (M.flatMap f)[j]? = some u → w.cell? (ad.add j) = some u) (h1 : ∀ y ∈ M, ∀ u ∈ f y, u.oneCell' = true)
    (h63 : L.length + m ≤ maxLen) (hbytes : (L.length + m) * bytes ≤ 140737488355328) (hbase : base ≤ w.heap.size)
    (h : ∀ v' w', w'.Row base e size f v' (L ++ M) → w.grownBy w' v.ownBlock → (v'.ownBlock = v.ownBlock ∨ v'.ownBlock = some w.heap.size) →
      S w' ∧ wpQuiet P ops C (fun a2 => wpTl P Dr S C ops Q ks (l.drop k) a2 w') (l.take k) (a.put o.dst v')) :
    wpTl P Dr S C ops Q (k :: ks) (o :: l) a w := by
  refine wpTl_dr (fun n K hK => ?_)
  subst hm
  obtain ⟨v', w', hr, h2, h3, _, h5⟩ := run_append_own_at (P := P) (w.drewN n) base t o.type e i z size bytes ht hi hz hsize hby hzs hsz v L.length (L.flatMap f) hown.own ad M.length c (M.flatMap f) (flat_len f size hown.len M) hnews
    (fun u hu => by obtain ⟨y, hy, hu⟩ := List.mem_flatMap.1 hu; exact h1 y hy u hu) h63 hbytes hbase
  obtain ⟨h6, h7⟩ := h v' w' ⟨hown.len, by rw [List.length_append, List.flatMap_append]; exact h2⟩ ⟨h3.os, h3.tape, h3.output, h3.size, h3.block⟩ h5
  unfold execOp
  simp only [ho, resolve, invoke, builtin, Sem.run_bind, Sem.run_pure, Result.andThen_ok, List.map_toArray, List.map_cons, List.map_nil, hs, hx, hr]
  exact ⟨w', Dr.refl _, h6, hK _ _ h6 h7⟩
end
end Mix
theorem Mix.Ex.cell {w w' : World} (h : Mix.Ex w w') {x : Addr} {v : Value} (hc : w.cell? x = some v) : w'.cell? x = some v := by
  obtain ⟨y, rfl⟩ := h
  obtain ⟨b, o, s⟩ := x
  rw [World.cell?_ext _ _ _ _ _ (World.block_lt_of_cell? w _ hc)]; exact hc
end Go
/- An append of a list's entries, which may be nil. No program in sight. -/
namespace Go
open Go.RowKit
section
variable {P : Program} {w : World}
theorem run_append_none (base : Nat) (t ty e : TypeId) (i : TypeInfo) (size : Nat) (hsize : i.size = size) (ht : P.underlying t = some (.slice e)) (hi : P.info? e = some i)
    (v : Value) (n : Nat) (xs : List Value) (hown : w.ownsRow base e size v n xs) : (Builtin.append_ #[t, t] ty #[v, .slice none 0 0]).run P w = .ok v w := by
  subst hsize
  have hs : ∀ a (w : World), (storeCells a []).run P w = .ok () w := fun a w => by cases a; rfl
  rcases hown.2 with ⟨rfl, rfl⟩ | ⟨g, cap, cur, rfl, hbg, hg, hnc, hcm, hcs, htake⟩
  · simp [Builtin.append_, run_underlying ht, sizeOf, typeInfo, hi, Builtin.lenOf, Builtin.firstCells, loadCells, loadCellsFrom]
  · simp [Builtin.append_, run_underlying ht, sizeOf, typeInfo, hi, Builtin.lenOf, Builtin.firstCells, loadCells, loadCellsFrom, hnc, hs]
/-- An append of a list, nil or not, at a plain region's list. -/
theorem wpList_append_rows {α : Type} {ops : Array Oper} {rest : List Oper} {o : Oper} {a : Act} {Q : Exit → Act → World → Prop} (hgd : o.guard = none) (s x : Operand) (t : TypeId)
    (ho : o.op = .call { callee := .builtin .append, args := #[s, x], argTypes := #[t, t] })
    (base : Nat) (e : TypeId) (i : TypeInfo) (z : Value) (size bytes : Nat) (ht : P.underlying t = some (.slice e)) (hi : P.info? e = some i) (hz : i.zero = some z)
    (hsize : i.size = size) (hby : i.bytes = bytes) (hzs : z.cells.size = size) (hsz : 0 < size)
    (f : α → List Value) (h1 : ∀ y, ∀ u ∈ f y, u.oneCell' = true) (v : Value) (L : List α) (hs : a.eval s = v) (hown : w.Row base e size f v L) (b2 : Nat) (u : Value) (M : List α) (hx : a.eval x = u) (hM : w.Row b2 e size f u M)
    (h63 : L.length + M.length ≤ maxLen) (hbytes : (L.length + M.length) * bytes ≤ 140737488355328) (hbase : base ≤ w.heap.size)
    (h : ∀ v' w', w'.Row base e size f v' (L ++ M) → w.grownBy w' v.ownBlock → (v'.ownBlock = v.ownBlock ∨ v'.ownBlock = some w.heap.size) → wpList P ops Q rest (a.put o.dst v') w') :
    wpList P ops Q (o :: rest) a w := by
  rcases hM.form with ⟨rfl, rfl⟩ | ⟨g, cap, rfl, _⟩
  · refine wpList_plain hgd fun K hK => ?_
    have hr := run_append_none (P := P) base t o.type e i size hsize ht hi v _ _ hown.own
    unfold Oper.wp execOp
    simp only [ho, resolve, invoke, builtin, Sem.run_bind, Sem.run_pure, Result.andThen_ok, List.map_toArray, List.map_cons, List.map_nil, hs, hx, hr]
    exact hK _ _ (h v w (by rw [List.append_nil]; exact hown) ⟨rfl, rfl, rfl, Nat.le_refl _, fun _ _ _ => rfl⟩ (.inl rfl))
  · refine wpList_append_own_at w hgd s x t ho base e i z size bytes ht hi hz hsize hby hzs hsz v L.length (L.flatMap f) hs hown.own ⟨g, 0, none⟩ M.length cap (M.flatMap f) hx (flat_len f size hM.len M) ?_ ?_ h63 hbytes hbase ?_
    · intro j u hj
      exact hM.own.cells (g := g) rfl j u hj
    · intro u hu; obtain ⟨y, _, hu⟩ := List.mem_flatMap.1 hu; exact h1 y u hu
    · intro v' w' h2 h3 _ h5
      exact h v' w' ⟨hown.len, by rw [List.length_append, List.flatMap_append]; exact h2⟩ h3 h5
end
end Go
/- A region whose order is open: an operation that yields the same in every world of C may be taken first, if C holds till operation k comes up, and k waits for it. No program in sight. -/
namespace Go
section
variable {P : Program} {ops : Array Oper} {Q : Exit → Act → World → Prop} {C : World → Prop} {k : Nat}
/-- Whatever order is picked from here on; C holds behind every operation till number k comes up. -/
def wpAnyK (P : Program) (ops : Array Oper) (Q : Exit → Act → World → Prop) (C : World → Prop) (k : Nat) : Nat → Array Bool → Act → World → Prop
  | 0, listed, a, w => Region.ready .any ops listed = [] ∧ Q .normal a w
  | fuel + 1, listed, a, w => (Region.ready .any ops listed = [] → Q .normal a w) ∧
    ∀ i ∈ Region.ready .any ops listed, wpOp P ops Q i (fun a' w' => ((listed.setIfInBounds i true).getD k true = false → C w') ∧ wpAnyK P ops Q C k fuel (listed.setIfInBounds i true) a' w') a w
theorem wpAny_of_K : ∀ (fuel : Nat) (listed : Array Bool) (a : Act) (w : World), wpAnyK P ops Q C k fuel listed a w → wpAny P .any ops Q fuel listed a w
  | 0, _, _, _, h => h
  | fuel + 1, _, _, _, h => ⟨h.1, fun i hi => wpOp_mono (fun a' w' h' => wpAny_of_K fuel _ a' w' h'.2) (h.2 i hi)⟩
theorem wpAnyK_first {i : Nat} {oi ok : Oper} {v : Value} (hi : ops[i]? = some oi) (hsel : ∀ (j : Nat) (o : Oper) cs b, ops[j]? = some o → o.op ≠ .select cs b)
    (hQ : ∀ c a w, Q (.panic c) (a.put oi.dst v) w → Q (.panic c) a w) (hk : ops[k]? = some ok) (hke : ∃ e ∈ ok.after, Region.binds .any e = true ∧ e.on = i) :
    ∀ (fuel : Nat) (listed : Array Bool) (a : Act) (w : World),
      (∀ j oj, ops[j]? = some oj → j ≠ i → listed.getD j true = false → (∀ e ∈ oj.after, Region.binds .any e = true → e.on ≠ i) → oi.apart ops oj = true) →
      i ∈ Region.ready .any ops listed → listed.getD k true = false → YieldsIf P ops C oi v a → C w →
      wpAnyK P ops Q C k fuel (listed.setIfInBounds i true) (a.put oi.dst v) w → wpAnyK P ops Q C k (fuel + 1) listed a w := by
  intro fuel
  -- what waits for i does not come up ahead of it
  have hno : ∀ (oj : Oper) (listed : Array Bool), i ∈ Region.ready .any ops listed → (∀ e ∈ oj.after, Region.binds .any e = true → listed.getD e.on false = true) → ∀ e ∈ oj.after, Region.binds .any e = true → e.on ≠ i := fun oj listed hr hall e he hb heq => by
    have h1 := hall e he hb
    have h0 := (mem_ready.1 hr).1
    rw [heq] at h1
    rcases Nat.lt_or_ge i listed.size with h' | h'
    · simp [h'] at h0 h1; rw [h0] at h1; cases h1
    · simp [Array.getElem?_eq_none h'] at h1
  induction fuel with
  | zero =>
    intro listed a w _ hr hlk hy hS H
    refine ⟨fun h => (by rw [h] at hr; cases hr), fun j hj => ?_⟩
    by_cases hji : j = i
    · subst hji; exact hy.wpOp hi hS ⟨fun _ => hS, H⟩
    · have := ready_mono hj hji
      rw [H.1] at this
      cases this
  | succ fuel ih =>
    intro listed a w hfree hr hlk hy hS H
    refine ⟨fun h => (by rw [h] at hr; cases hr), fun j hj => ?_⟩
    by_cases hji : j = i
    · subst hji; exact hy.wpOp hi hS ⟨fun _ => hS, H⟩
    · have h1 := H.2 j (ready_mono hj hji)
      obtain ⟨hjun, oj, hoj, hall⟩ := mem_ready.1 hj
      have hnot := hno oj listed hr hall
      have hjk : j ≠ k := fun e => by
        subst e
        rw [hk] at hoj
        obtain rfl := Option.some.inj hoj
        obtain ⟨e, he, hb, heq⟩ := hke
        exact hnot e he hb heq
      have hik : i ≠ k := fun e => by
        subst e
        rw [hk] at hi
        obtain rfl := Option.some.inj hi
        obtain ⟨e, he, hb, heq⟩ := hke
        obtain ⟨_, o', ho', hall'⟩ := mem_ready.1 hr
        rw [hk] at ho'
        obtain rfl := Option.some.inj ho'
        exact hno _ listed hr hall' e he hb heq
      have h2 := wpOp_putIf hoj (hfree j oj hoj hji hjun hnot) (fun cs b => hsel i oi cs b hi) (fun cs b => hsel j oj cs b hoj) hQ hy h1
      have hfree' : ∀ m om, ops[m]? = some om → m ≠ i → (listed.setIfInBounds j true).getD m true = false →
          (∀ e ∈ om.after, Region.binds .any e = true → e.on ≠ i) → oi.apart ops om = true := fun m om hm hmi hun hno => by
        refine hfree m om hm hmi ?_ hno
        by_cases hjm : j = m
        · subst hjm; exact hjun
        · rw [getD_set_ne true hjm] at hun; exact hun
      have hlk' : (listed.setIfInBounds j true).getD k true = false := by rw [getD_set_ne true hjk]; exact hlk
      refine wpOp_mono (fun a' w' h3 => ?_) h2
      have hC : C w' := h3.2.1 (by rw [getD_set_ne true hjk, getD_set_ne true hik]; exact hlk)
      refine ⟨fun _ => hC, ih (listed.setIfInBounds j true) a' w' hfree' (ready_mono hr (Ne.symm hji)) hlk' h3.1 hC ?_⟩
      rw [Array.setIfInBounds_comm _ _ hji]
      exact h3.2.2
/-- k waits for i, and has not come up. -/
def waitsB (ops : Array Oper) (k i : Nat) (listed : Array Bool) : Bool :=
  !(listed.getD k true) && match ops[k]? with
    | some o => o.after.any fun e => Region.binds .any e && e.on == i
    | none => false
theorem wpAnyK_take {i : Nat} {oi : Oper} {v : Value} {fuel : Nat} {listed : Array Bool} {a : Act} {w : World} (hi : ops[i]? = some oi)
    (hs : Region.noSelect ops = true) (hf : Region.free .any ops listed i = true) (hr : (Region.ready .any ops listed).contains i = true) (hw : waitsB ops k i listed = true)
    (hQ : ∀ c a w, Q (.panic c) (a.put oi.dst v) w → Q (.panic c) a w) (hy : YieldsIf P ops C oi v a) (hS : C w)
    (h : wpAnyK P ops Q C k fuel (listed.setIfInBounds i true) (a.put oi.dst v) w) : wpAnyK P ops Q C k (fuel + 1) listed a w := by
  unfold waitsB at hw
  simp only [Bool.and_eq_true, Bool.not_eq_true'] at hw
  obtain ⟨hlk, hw⟩ := hw
  cases hk : ops[k]? with
  | none => rw [hk] at hw; cases hw
  | some ok =>
    rw [hk] at hw
    obtain ⟨e, he, hb⟩ := Array.any_eq_true'.1 hw
    simp only [Bool.and_eq_true, beq_iff_eq] at hb
    exact wpAnyK_first hi (Region.noSelect_spec hs) hQ hk ⟨e, he, hb⟩ fuel listed a w (Region.free_spec hi hf) (by simpa using hr) hlk hy hS h
/-- One alone may come up. -/
theorem wpAnyK_one {i : Nat} {o : Oper} {fuel : Nat} {listed : Array Bool} {a : Act} {w : World} (hr : Region.ready .any ops listed = [i]) (hi : ops[i]? = some o) (hg : o.guard = none)
    (h : ∀ K : Act → World → Prop, (∀ a' w', ((listed.setIfInBounds i true).getD k true = false → C w') → wpAnyK P ops Q C k fuel (listed.setIfInBounds i true) a' w' → K a' w') → Oper.wp P o a w K Q) :
    wpAnyK P ops Q C k (fuel + 1) listed a w := by
  refine ⟨fun h0 => (by rw [hr] at h0; cases h0), fun j hj => ?_⟩
  rw [hr] at hj
  obtain rfl : j = i := by simpa using hj
  unfold wpOp
  simp only [hi, Region.wanted, hg, if_true]
  exact .inl (h _ fun a' w' h1 h2 => ⟨h1, h2⟩)
/-- Two may come up. -/
theorem wpAnyK_two {i i' : Nat} {o o' : Oper} {fuel : Nat} {listed : Array Bool} {a : Act} {w : World} (hr : Region.ready .any ops listed = [i, i']) (hi : ops[i]? = some o) (hi' : ops[i']? = some o') (hg : o.guard = none) (hg' : o'.guard = none)
    (h : ∀ K : Act → World → Prop, (∀ a' w', ((listed.setIfInBounds i true).getD k true = false → C w') → wpAnyK P ops Q C k fuel (listed.setIfInBounds i true) a' w' → K a' w') → Oper.wp P o a w K Q)
    (h' : ∀ K : Act → World → Prop, (∀ a' w', ((listed.setIfInBounds i' true).getD k true = false → C w') → wpAnyK P ops Q C k fuel (listed.setIfInBounds i' true) a' w' → K a' w') → Oper.wp P o' a w K Q) :
    wpAnyK P ops Q C k (fuel + 1) listed a w := by
  refine ⟨fun h0 => (by rw [hr] at h0; cases h0), fun j hj => ?_⟩
  rw [hr] at hj
  rcases (by simpa using hj : j = i ∨ j = i') with rfl | rfl
  · unfold wpOp
    simp only [hi, Region.wanted, hg, if_true]
    exact .inl (h _ fun a' w' h1 h2 => ⟨h1, h2⟩)
  · unfold wpOp
    simp only [hi', Region.wanted, hg', if_true]
    exact .inl (h' _ fun a' w' h1 h2 => ⟨h1, h2⟩)
theorem wpAnyK_done {listed : Array Bool} {a : Act} {w : World} (hr : Region.ready .any ops listed = []) (h : Q .normal a w) : ∀ fuel, wpAnyK P ops Q C k fuel listed a w
  | 0 => ⟨hr, h⟩
  | _ + 1 => ⟨fun _ => h, by rw [hr]; simp⟩
theorem wp_region_K {id : Nat} {a : Act} {w : World} (C : World → Prop) (k : Nat) (hm : P.follows .mixedOrders = true) (h : wpAnyK P ops Q C k ops.size (Array.replicate ops.size false) a (w.drewN 1)) : (Code.region id ops true).wp P Q a w :=
  wp_region_any hm (wpAny_of_K (C := C) (k := k) _ _ _ _ h)
end
end Go
/- A region whose order is open, by what each operation leaves: whatever order is picked, each yields what is said of it, and none turns what is said of another. No program in sight. -/
namespace Go
section
variable {P : Program} {ops : Array Oper} {Q : Exit → Act → World → Prop} {C : World → Prop} {k : Nat}
def dstOf (ops : Array Oper) (i : Nat) : Option Tmp := (ops[i]?).bind (·.dst)
/-- The slots of the operations us hold x. -/
def putU (ops : Array Oper) : List Nat → (Nat → Value) → Act → Act
  | [], _, a => a
  | i :: us, x, a => putU ops us x (a.put (dstOf ops i) (x i))
def updN (x : Nat → Value) (i : Nat) (v : Value) : Nat → Value := fun j => if j = i then v else x j
theorem Act.put_put (a : Act) (d : Option Tmp) (u v : Value) : (a.put d u).put d v = a.put d v := by
  cases d with
  | none => rfl
  | some d => simp [Act.put]
theorem Act.put_swap (a : Act) {d d' : Option Tmp} (h : d = none ∨ d ≠ d') (u v : Value) : (a.put d u).put d' v = (a.put d' v).put d u := by
  cases d with
  | none => cases d' <;> rfl
  | some d =>
    cases d' with
    | none => rfl
    | some d' =>
      have : d ≠ d' := fun e => by rcases h with h | h; cases h; exact h (by rw [e])
      simp only [Act.put]
      rw [Array.setIfInBounds_comm _ _ this]
theorem Act.put_self (a : Act) (d : Option Tmp) : ∃ v, a.put d v = a := by
  cases d with
  | none => exact ⟨undef, rfl⟩
  | some d =>
    refine ⟨a.tmps.getD d undef, ?_⟩
    have e : a.tmps.setIfInBounds d (a.tmps.getD d undef) = a.tmps := ?_
    · show ({ a with tmps := a.tmps.setIfInBounds d (a.tmps.getD d undef) } : Act) = a
      rw [e]
    apply Array.ext
    · simp
    · intro i h1 h2
      rw [Array.getElem_setIfInBounds (by simpa using h2)]
      split
      · rename_i h; subst h; simp [h2]
      · rfl
/-- No two of these write the same slot. -/
def apartU (ops : Array Oper) : List Nat → Bool
  | [] => true
  | i :: us => (us.all fun j => i != j && ((dstOf ops i).isNone || dstOf ops i != dstOf ops j)) && apartU ops us
theorem putU_congr {us : List Nat} : ∀ {x y : Nat → Value} {a : Act}, (∀ i ∈ us, x i = y i) → putU ops us x a = putU ops us y a := by
  induction us with
  | nil => intros; rfl
  | cons i us ih =>
    intro x y a h
    unfold putU
    rw [h i List.mem_cons_self]
    exact ih fun j hj => h j (List.mem_cons_of_mem _ hj)
theorem putU_push {us : List Nat} : ∀ {x : Nat → Value} {a : Act} {d : Option Tmp} {v : Value}, (∀ j ∈ us, d = none ∨ d ≠ dstOf ops j) → (putU ops us x a).put d v = putU ops us x (a.put d v) := by
  induction us with
  | nil => intros; rfl
  | cons i us ih =>
    intro x a d v h
    unfold putU
    rw [ih fun j hj => h j (List.mem_cons_of_mem _ hj), Act.put_swap _ (h i List.mem_cons_self)]
theorem putU_put {us : List Nat} (hu : apartU ops us = true) : ∀ {x : Nat → Value} {a : Act} {i : Nat} {v : Value}, i ∈ us → (putU ops us x a).put (dstOf ops i) v = putU ops us (updN x i v) a := by
  induction us with
  | nil => intro _ _ _ _ h; cases h
  | cons j us ih =>
    intro x a i v hi
    simp only [apartU, Bool.and_eq_true, List.all_eq_true, bne_iff_ne, ne_eq, Bool.or_eq_true, Option.isNone_iff_eq_none] at hu
    obtain ⟨h1, h2⟩ := hu
    unfold putU
    by_cases hij : i = j
    · subst hij
      have hn : ∀ m ∈ us, dstOf ops i = none ∨ dstOf ops i ≠ dstOf ops m := fun m hm => (h1 m hm).2
      rw [putU_push hn, Act.put_put]
      have e : updN x i v i = v := if_pos rfl
      rw [e]
      exact putU_congr fun m hm => (if_neg (fun e => (h1 m hm).1 e.symm)).symm
    · have hm : i ∈ us := by
        rcases List.mem_cons.1 hi with h | h
        · exact absurd h hij
        · exact h
      have e : updN x i v j = x j := if_neg (Ne.symm hij)
      rw [ih h2 hm, e]
theorem putU_start {us : List Nat} (hu : apartU ops us = true) (a : Act) : ∃ x, putU ops us x a = a := by
  induction us with
  | nil => exact ⟨fun _ => undef, rfl⟩
  | cons i us ih =>
    simp only [apartU, Bool.and_eq_true, List.all_eq_true, bne_iff_ne, ne_eq, Bool.or_eq_true, Option.isNone_iff_eq_none] at hu
    obtain ⟨h1, h2⟩ := hu
    obtain ⟨x, hx⟩ := ih h2
    obtain ⟨v, hv⟩ := Act.put_self a (dstOf ops i)
    refine ⟨updN x i v, ?_⟩
    unfold putU
    have e : updN x i v i = v := if_pos rfl
    rw [e, hv]
    rw [putU_congr (x := updN x i v) (y := x) fun j hj => if_neg (fun e => (h1 j hj).1 e.symm), hx]
/-- The check: us is what may come up before all of us is done. -/
def rgB (ops : Array Oper) (listed : Array Bool) (us : List Nat) : Bool :=
  apartU ops us && (us.all fun i => !(listed.getD i true) && match ops[i]? with
    | none => false
    | some o => o.guard.isNone && o.after.all fun e => !(Region.binds .any e) || (listed.getD e.on false || (us.contains e.on && Nat.blt e.on i))) &&
  (List.range ops.size).all fun j => listed.getD j true || (us.contains j || match ops[j]? with
    | none => true
    | some o => us.all fun i => o.after.any fun e => Region.binds .any e && e.on == i)
def setAll (us : List Nat) (listed : Array Bool) : Array Bool := us.foldl (fun l i => l.setIfInBounds i true) listed
theorem setAll_size (us : List Nat) : ∀ (listed : Array Bool), (setAll us listed).size = listed.size := by
  induction us with
  | nil => intro _; rfl
  | cons i us ih => intro l; show (setAll us (l.setIfInBounds i true)).size = _; rw [ih]; simp
theorem setAll_get (us : List Nat) : ∀ (listed : Array Bool) (j : Nat), j < listed.size → (setAll us listed).getD j true = (listed.getD j true || us.contains j) := by
  induction us with
  | nil => intro l j _; simp [setAll]
  | cons i us ih =>
    intro l j hj
    show (setAll us (l.setIfInBounds i true)).getD j true = _
    rw [ih _ _ (by simpa using hj)]
    by_cases hij : i = j
    · subst hij; simp [hj]
    · rw [getD_set_ne true hij]
      have : (i :: us).contains j = us.contains j := by simp [List.contains_cons, Ne.symm hij]
      rw [this]
theorem getD_ff {l : Array Bool} {j : Nat} (h : l.getD j true = false) : l.getD j false = false ∧ j < l.size := by
  rcases Nat.lt_or_ge j l.size with h' | h'
  · simp [h'] at h ⊢; exact h
  · simp [Array.getElem?_eq_none h'] at h
theorem exists_leastU {us : List Nat} {p : Nat → Bool} (h : ∃ i ∈ us, p i = true) : ∃ i ∈ us, p i = true ∧ ∀ j ∈ us, j < i → p j = false := by
  obtain ⟨i, hi, hp⟩ := h
  induction i using Nat.strongRecOn with
  | ind i ih =>
    by_cases hx : ∃ j ∈ us, j < i ∧ p j = true
    · obtain ⟨j, hj, hlt, hpj⟩ := hx
      exact ih j hlt hj hpj
    · exact ⟨i, hi, hp, fun j hj hlt => by
        cases hpj : p j with
        | false => rfl
        | true => exact absurd ⟨j, hj, hlt, hpj⟩ hx⟩
theorem apartU_nodup {us : List Nat} (hu : apartU ops us = true) : us.Nodup := by
  induction us with
  | nil => exact List.nodup_nil
  | cons i us ih =>
    simp only [apartU, Bool.and_eq_true, List.all_eq_true, bne_iff_ne, ne_eq, Bool.or_eq_true, Option.isNone_iff_eq_none] at hu
    exact List.nodup_cons.2 ⟨fun h => (hu.1 i h).1 rfl, ih hu.2⟩
theorem countP_upd {us : List Nat} (hn : us.Nodup) {p q : Nat → Bool} {i : Nat} (hi : i ∈ us) (hp : p i = true) (hq : q i = false) (he : ∀ j ∈ us, j ≠ i → q j = p j) : us.countP p = us.countP q + 1 := by
  induction us with
  | nil => cases hi
  | cons j us ih =>
    obtain ⟨h1, h2⟩ := List.nodup_cons.1 hn
    rw [List.countP_cons, List.countP_cons]
    by_cases hij : i = j
    · subst hij
      have e : us.countP p = us.countP q := List.countP_congr fun m hm => by rw [he m (List.mem_cons_of_mem _ hm) (fun e => h1 (e ▸ hm))]
      rw [e, hp, hq]; simp
    · have hm : i ∈ us := by
        rcases List.mem_cons.1 hi with h | h
        · exact absurd h hij
        · exact h
      rw [ih h2 hm fun m hm => he m (List.mem_cons_of_mem _ hm), he j List.mem_cons_self (Ne.symm hij)]
      omega
/-- **Whatever order is picked.** A i: what operation i's value is in the world; G i: how it may turn the world; I: what holds of each world on the way. -/
theorem wpAnyK_rg {us : List Nat} {listed0 : Array Bool} {a0 : Act} {w0 : World} (A : Nat → Value → World → Prop) (G : Nat → World → World → Prop) (I : World → Prop) (hB : rgB ops listed0 us = true) (f : Nat)
    (hIC : ∀ W, I W → C W) (hI0 : I w0)
    (hst : ∀ i ∈ us, ∀ j ∈ us, i ≠ j → ∀ v w w', A i v w → G j w w' → A i v w')
    (hop : ∀ i ∈ us, ∀ o, ops[i]? = some o → ∀ x w, I w → (∀ e ∈ o.after.toList, Region.binds .any e = true → us.contains e.on = true → A e.on (x e.on) w) →
      ∀ K : Act → World → Prop, (∀ v w', I w' → G i w w' → A i v w' → K ((putU ops us x a0).put o.dst v) w') → Oper.wp P o (putU ops us x a0) w K Q)
    (hend : ∀ x w, I w → (∀ i ∈ us, A i (x i) w) → wpAnyK P ops Q C k f (setAll us listed0) (putU ops us x a0) w) :
    wpAnyK P ops Q C k (f + us.length) listed0 a0 w0 := by
  simp only [rgB, Bool.and_eq_true] at hB
  obtain ⟨⟨hap, hus⟩, hoth⟩ := hB
  have hus' : ∀ i ∈ us, listed0.getD i true = false ∧ ∃ o, ops[i]? = some o ∧ o.guard = none ∧ ∀ e ∈ o.after, Region.binds .any e = true → listed0.getD e.on false = true ∨ (e.on ∈ us ∧ e.on < i) := by
    intro i hi
    have h := List.all_eq_true.1 hus i hi
    simp only [Bool.and_eq_true, Bool.not_eq_true'] at h
    obtain ⟨h1, h2⟩ := h
    cases ho : ops[i]? with
    | none => rw [ho] at h2; cases h2
    | some o =>
      rw [ho] at h2
      simp only [Bool.and_eq_true, Option.isNone_iff_eq_none] at h2
      obtain ⟨h2, h3⟩ := h2
      refine ⟨h1, o, rfl, h2, fun e he hb => ?_⟩
      have h4 := Array.all_eq_true_iff_forall_mem.1 h3 e he
      rw [hb] at h4
      simp only [Bool.not_true, Bool.false_or, Bool.or_eq_true, Bool.and_eq_true, List.contains_iff_mem] at h4
      rcases h4 with h4 | ⟨h4, h5⟩
      · exact .inl h4
      · exact .inr ⟨h4, by simpa [Nat.blt_eq] using h5⟩
  have hoth' : ∀ j o, ops[j]? = some o → listed0.getD j true = false → j ∉ us → ∀ i ∈ us, ∃ e ∈ o.after, Region.binds .any e = true ∧ e.on = i := by
    intro j o ho hl hj i hi
    have h := List.all_eq_true.1 hoth j (List.mem_range.2 (Array.getElem?_eq_some_iff.1 ho).1)
    rw [hl, ho] at h
    simp only [Bool.false_or, Bool.or_eq_true, List.contains_iff_mem] at h
    have h := h.resolve_left hj
    obtain ⟨e, he, hb⟩ := Array.any_eq_true'.1 (List.all_eq_true.1 h i hi)
    simp only [Bool.and_eq_true, beq_iff_eq] at hb
    exact ⟨e, he, hb⟩
  obtain ⟨x0, hx0⟩ := putU_start hap a0
  have main : ∀ (r : Nat) (listed : Array Bool) (x : Nat → Value) (w : World), (us.countP fun i => !(listed.getD i true)) = r → listed.size = listed0.size → (∀ j, j ∉ us → listed.getD j true = listed0.getD j true) → (∀ j, j ∉ us → listed.getD j false = listed0.getD j false) →
      I w → (∀ i ∈ us, listed.getD i true = true → A i (x i) w) → wpAnyK P ops Q C k (f + r) listed (putU ops us x a0) w := by
    intro r
    induction r with
    | zero =>
      intro listed x w hc hs hn _ hI hA
      have hall : ∀ i ∈ us, listed.getD i true = true := fun i hi => by
        have := List.countP_eq_zero.1 hc i hi
        simpa using this
      have e : listed = setAll us listed0 := by
        apply Array.ext
        · rw [setAll_size, hs]
        · intro j h1 h2
          have h3 := setAll_get us listed0 j (by omega)
          have h4 : listed.getD j true = (listed0.getD j true || us.contains j) := by
            by_cases hj : j ∈ us
            · rw [hall j hj]; simp [hj]
            · rw [hn j hj]; simp [hj]
          rw [← h3] at h4
          simpa [h1, h2] using h4
      rw [e]
      exact hend x w hI fun i hi => hA i hi (hall i hi)
    | succ r ih =>
      intro listed x w hc hs hn hn' hI hA
      have hone : ∃ i ∈ us, (!(listed.getD i true)) = true := by
        have : 0 < us.countP fun i => !(listed.getD i true) := by omega
        exact List.countP_pos_iff.1 this
      refine ⟨fun hr => ?_, fun i hi => ?_⟩
      · exfalso
        obtain ⟨i, hi, hp, hleast⟩ := exists_leastU hone
        obtain ⟨_, o, ho, _, haft⟩ := hus' i hi
        have : i ∈ Region.ready .any ops listed := mem_ready.2 ⟨by simpa using hp, o, ho, fun e he hb => by
          rcases haft e he hb with h | ⟨h, hlt⟩
          · by_cases hu : e.on ∈ us
            · have h1 := (hus' _ hu).1
              have := (getD_ff h1).1
              rw [this] at h; cases h
            · rw [hn' _ hu]; exact h
          · have h1 := hleast _ h hlt
            have h2 : listed.getD e.on true = true := by simpa using h1
            have h3 := (getD_ff (hus' _ h).1).2
            rw [← hs] at h3
            simpa [h3] using h2⟩
        rw [hr] at this
        cases this
      · obtain ⟨hun, o, ho, hall⟩ := mem_ready.1 hi
        by_cases hu : i ∈ us
        · obtain ⟨_, o', ho', hg, _⟩ := hus' i hu
          rw [ho] at ho'
          obtain rfl := Option.some.inj ho'
          unfold wpOp
          simp only [ho, Region.wanted, hg, if_true]
          refine .inl (hop i hu o ho x w hI (fun e he hb hc => hA _ (by simpa using hc) ?_) _ fun v w' hI' hG hAv => ?_)
          · have h := hall e (Array.mem_toList_iff.1 he) hb
            have hc' : e.on ∈ us := by simpa using hc
            have h3 := (getD_ff (hus' _ hc').1).2
            rw [← hs] at h3
            simpa [h3] using h
          · have hd : o.dst = dstOf ops i := by unfold dstOf; rw [ho]; rfl
            rw [hd, putU_put hap hu]
            have hlt := (getD_ff hun).2
            refine ⟨fun _ => hIC _ hI', ih _ _ _ ?_ (by simpa using hs) (fun j hj => ?_) (fun j hj => ?_) hI' (fun j hj hl => ?_)⟩
            · have h := countP_upd (apartU_nodup hap) hu (p := fun i => !(listed.getD i true)) (q := fun j => !((listed.setIfInBounds i true).getD j true)) (by simp [hun]) (by simp [hlt]) (fun j _ hji => by rw [getD_set_ne true (Ne.symm hji)])
              omega
            · rw [getD_set_ne true (fun e : i = j => hj (e ▸ hu))]; exact hn j hj
            · rw [getD_set_ne false (fun e : i = j => hj (e ▸ hu))]; exact hn' j hj
            · by_cases hji : j = i
              · subst hji
                have e : updN x j v j = v := if_pos rfl
                rw [e]; exact hAv
              · have e : updN x i v j = x j := if_neg hji
                rw [e]
                rw [getD_set_ne true (Ne.symm hji)] at hl
                exact hst j hj i hu hji _ _ _ (hA j hj hl) hG
        · exfalso
          rw [hn i hu] at hun
          obtain ⟨m, hm, hp⟩ := hone
          obtain ⟨e, he, hb, heq⟩ := hoth' i o ho hun hu m hm
          have h1 := hall e he hb
          rw [heq] at h1
          have h2 := (getD_ff (l := listed) (j := m) (by simpa using hp)).1
          rw [h2] at h1
          cases h1
  have h0 := main us.length listed0 x0 w0 (by
    rw [List.countP_eq_length]
    intro i hi
    rw [(hus' i hi).1]; rfl) rfl (fun _ _ => rfl) (fun _ _ => rfl) hI0 (fun i hi h => by rw [(hus' i hi).1] at h; cases h)
  rw [hx0] at h0
  exact h0
end
end Go
/- A region whose order is open, by what each operation leaves and by what each may take for granted until it comes up. No program in sight. -/
namespace Go
section
variable {P : Program} {ops : Array Oper} {Q : Exit → Act → World → Prop} {C : World → Prop} {k : Nat}
/-- **Whatever order is picked.** B i: what holds till operation i comes up; A i: what operation i's value is in the world; G i: how it may turn the world; I: what holds of each world on the way. -/
theorem wpAnyK_rgB {us : List Nat} {listed0 : Array Bool} {a0 : Act} {w0 : World} (B : Nat → World → Prop) (A : Nat → Value → World → Prop) (G : Nat → World → World → Prop) (I : World → Prop) (hB : rgB ops listed0 us = true) (f : Nat)
    (hIC : ∀ W, I W → C W) (hI0 : I w0) (hB0 : ∀ i ∈ us, B i w0)
    (hBs : ∀ i ∈ us, ∀ j ∈ us, i ≠ j → ∀ w w', B i w → G j w w' → B i w')
    (hst : ∀ i ∈ us, ∀ j ∈ us, i ≠ j → ∀ v w w', A i v w → G j w w' → A i v w')
    (hop : ∀ i ∈ us, ∀ o, ops[i]? = some o → ∀ x w, I w → B i w → (∀ e ∈ o.after.toList, Region.binds .any e = true → us.contains e.on = true → A e.on (x e.on) w) →
      ∀ K : Act → World → Prop, (∀ v w', I w' → G i w w' → A i v w' → K ((putU ops us x a0).put o.dst v) w') → Oper.wp P o (putU ops us x a0) w K Q)
    (hend : ∀ x w, I w → (∀ i ∈ us, A i (x i) w) → wpAnyK P ops Q C k f (setAll us listed0) (putU ops us x a0) w) :
    wpAnyK P ops Q C k (f + us.length) listed0 a0 w0 := by
  simp only [rgB, Bool.and_eq_true] at hB
  obtain ⟨⟨hap, hus⟩, hoth⟩ := hB
  have hus' : ∀ i ∈ us, listed0.getD i true = false ∧ ∃ o, ops[i]? = some o ∧ o.guard = none ∧ ∀ e ∈ o.after, Region.binds .any e = true → listed0.getD e.on false = true ∨ (e.on ∈ us ∧ e.on < i) := by
    intro i hi
    have h := List.all_eq_true.1 hus i hi
    simp only [Bool.and_eq_true, Bool.not_eq_true'] at h
    obtain ⟨h1, h2⟩ := h
    cases ho : ops[i]? with
    | none => rw [ho] at h2; cases h2
    | some o =>
      rw [ho] at h2
      simp only [Bool.and_eq_true, Option.isNone_iff_eq_none] at h2
      obtain ⟨h2, h3⟩ := h2
      refine ⟨h1, o, rfl, h2, fun e he hb => ?_⟩
      have h4 := Array.all_eq_true_iff_forall_mem.1 h3 e he
      rw [hb] at h4
      simp only [Bool.not_true, Bool.false_or, Bool.or_eq_true, Bool.and_eq_true, List.contains_iff_mem] at h4
      rcases h4 with h4 | ⟨h4, h5⟩
      · exact .inl h4
      · exact .inr ⟨h4, by simpa [Nat.blt_eq] using h5⟩
  have hoth' : ∀ j o, ops[j]? = some o → listed0.getD j true = false → j ∉ us → ∀ i ∈ us, ∃ e ∈ o.after, Region.binds .any e = true ∧ e.on = i := by
    intro j o ho hl hj i hi
    have h := List.all_eq_true.1 hoth j (List.mem_range.2 (Array.getElem?_eq_some_iff.1 ho).1)
    rw [hl, ho] at h
    simp only [Bool.false_or, Bool.or_eq_true, List.contains_iff_mem] at h
    have h := h.resolve_left hj
    obtain ⟨e, he, hb⟩ := Array.any_eq_true'.1 (List.all_eq_true.1 h i hi)
    simp only [Bool.and_eq_true, beq_iff_eq] at hb
    exact ⟨e, he, hb⟩
  obtain ⟨x0, hx0⟩ := putU_start hap a0
  have main : ∀ (r : Nat) (listed : Array Bool) (x : Nat → Value) (w : World), (us.countP fun i => !(listed.getD i true)) = r → listed.size = listed0.size → (∀ j, j ∉ us → listed.getD j true = listed0.getD j true) → (∀ j, j ∉ us → listed.getD j false = listed0.getD j false) →
      I w → (∀ i ∈ us, listed.getD i true = false → B i w) → (∀ i ∈ us, listed.getD i true = true → A i (x i) w) → wpAnyK P ops Q C k (f + r) listed (putU ops us x a0) w := by
    intro r
    induction r with
    | zero =>
      intro listed x w hc hs hn _ hI _ hA
      have hall : ∀ i ∈ us, listed.getD i true = true := fun i hi => by
        have := List.countP_eq_zero.1 hc i hi
        simpa using this
      have e : listed = setAll us listed0 := by
        apply Array.ext
        · rw [setAll_size, hs]
        · intro j h1 h2
          have h3 := setAll_get us listed0 j (by omega)
          have h4 : listed.getD j true = (listed0.getD j true || us.contains j) := by
            by_cases hj : j ∈ us
            · rw [hall j hj]; simp [hj]
            · rw [hn j hj]; simp [hj]
          rw [← h3] at h4
          simpa [h1, h2] using h4
      rw [e]
      exact hend x w hI fun i hi => hA i hi (hall i hi)
    | succ r ih =>
      intro listed x w hc hs hn hn' hI hBB hA
      have hone : ∃ i ∈ us, (!(listed.getD i true)) = true := by
        have : 0 < us.countP fun i => !(listed.getD i true) := by omega
        exact List.countP_pos_iff.1 this
      refine ⟨fun hr => ?_, fun i hi => ?_⟩
      · exfalso
        obtain ⟨i, hi, hp, hleast⟩ := exists_leastU hone
        obtain ⟨_, o, ho, _, haft⟩ := hus' i hi
        have : i ∈ Region.ready .any ops listed := mem_ready.2 ⟨by simpa using hp, o, ho, fun e he hb => by
          rcases haft e he hb with h | ⟨h, hlt⟩
          · by_cases hu : e.on ∈ us
            · have h1 := (hus' _ hu).1
              have := (getD_ff h1).1
              rw [this] at h; cases h
            · rw [hn' _ hu]; exact h
          · have h1 := hleast _ h hlt
            have h2 : listed.getD e.on true = true := by simpa using h1
            have h3 := (getD_ff (hus' _ h).1).2
            rw [← hs] at h3
            simpa [h3] using h2⟩
        rw [hr] at this
        cases this
      · obtain ⟨hun, o, ho, hall⟩ := mem_ready.1 hi
        by_cases hu : i ∈ us
        · obtain ⟨_, o', ho', hg, _⟩ := hus' i hu
          rw [ho] at ho'
          obtain rfl := Option.some.inj ho'
          unfold wpOp
          simp only [ho, Region.wanted, hg, if_true]
          refine .inl (hop i hu o ho x w hI (hBB i hu hun) (fun e he hb hc => hA _ (by simpa using hc) ?_) _ fun v w' hI' hG hAv => ?_)
          · have h := hall e (Array.mem_toList_iff.1 he) hb
            have hc' : e.on ∈ us := by simpa using hc
            have h3 := (getD_ff (hus' _ hc').1).2
            rw [← hs] at h3
            simpa [h3] using h
          · have hd : o.dst = dstOf ops i := by unfold dstOf; rw [ho]; rfl
            rw [hd, putU_put hap hu]
            have hlt := (getD_ff hun).2
            refine ⟨fun _ => hIC _ hI', ih _ _ _ ?_ (by simpa using hs) (fun j hj => ?_) (fun j hj => ?_) hI' (fun j hj hl => ?_) (fun j hj hl => ?_)⟩
            · have h := countP_upd (apartU_nodup hap) hu (p := fun i => !(listed.getD i true)) (q := fun j => !((listed.setIfInBounds i true).getD j true)) (by simp [hun]) (by simp [hlt]) (fun j _ hji => by rw [getD_set_ne true (Ne.symm hji)])
              omega
            · rw [getD_set_ne true (fun e : i = j => hj (e ▸ hu))]; exact hn j hj
            · rw [getD_set_ne false (fun e : i = j => hj (e ▸ hu))]; exact hn' j hj
            · by_cases hji : j = i
              · subst hji
                simp [hlt] at hl
              · rw [getD_set_ne true (Ne.symm hji)] at hl
                exact hBs j hj i hu hji _ _ (hBB j hj hl) hG
            · by_cases hji : j = i
              · subst hji
                have e : updN x j v j = v := if_pos rfl
                rw [e]; exact hAv
              · have e : updN x i v j = x j := if_neg hji
                rw [e]
                rw [getD_set_ne true (Ne.symm hji)] at hl
                exact hst j hj i hu hji _ _ _ (hA j hj hl) hG
        · exfalso
          rw [hn i hu] at hun
          obtain ⟨m, hm, hp⟩ := hone
          obtain ⟨e, he, hb, heq⟩ := hoth' i o ho hun hu m hm
          have h1 := hall e he hb
          rw [heq] at h1
          have h2 := (getD_ff (l := listed) (j := m) (by simpa using hp)).1
          rw [h2] at h1
          cases h1
  have h0 := main us.length listed0 x0 w0 (by
    rw [List.countP_eq_length]
    intro i hi
    rw [(hus' i hi).1]; rfl) rfl (fun _ _ => rfl) (fun _ _ => rfl) hI0 (fun i hi _ => hB0 i hi) (fun i hi h => by rw [(hus' i hi).1] at h; cases h)
  rw [hx0] at h0
  exact h0
end
end Go
/- Items and steps as they lie in memory. -/
namespace Go.Bx
open Go.RowKit
/-- An item in memory. -/
def itemV (x : R × Int) : List Value := [.int .i64 x.1.x0, .int .i64 x.1.y0, .int .i64 x.1.x1, .int .i64 x.1.y1, .int .i64 x.2]
theorem itemV_len (x : R × Int) : (itemV x).length = 5 := rfl
theorem itemV_one (x : R × Int) : ∀ u ∈ itemV x, u.oneCell' = true := by
  intro u hu
  simp [itemV] at hu
  rcases hu with rfl | rfl | rfl | rfl | rfl <;> rfl
/-- A step in memory. -/
def stepV (st : Stp) : List Value := [.int .i64 st.k, .int .i64 st.o.1.x0, .int .i64 st.o.1.y0, .int .i64 st.o.1.x1, .int .i64 st.o.1.y1, .int .i64 st.o.2, .int .i64 st.n.1.x0, .int .i64 st.n.1.y0, .int .i64 st.n.1.x1, .int .i64 st.n.1.y1, .int .i64 st.n.2]
theorem stepV_len (st : Stp) : (stepV st).length = 11 := rfl
theorem stepV_one (x : Stp) : ∀ u ∈ stepV x, u.oneCell' = true := by
  intro u hu
  simp [stepV] at hu
  rcases hu with rfl | rfl | rfl | rfl | rfl | rfl | rfl | rfl | rfl | rfl | rfl <;> rfl
end Go.Bx
