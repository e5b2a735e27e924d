/- An append of a whole list of entries. No program in sight. -/
import Derived.Test.YtenokcfpmfoekaaRowk
import Derived.Maps.AppendAt
set_option linter.unusedSimpArgs false
set_option linter.unusedVariables false
namespace Go
open Go.RowKit
namespace Mix
section
variable {P : Program} {ops : Array Oper} {S C : World → Prop}
/-- An append of a list of entries, at a step of a region whose order is open. -/
theorem wpTl_append_list {α : Type} {Q : Act → World → Prop} {k : Nat} {ks : List Nat} {o : Oper} {l : List Oper} {a : Act} {w : World} (s x : Operand) (t : TypeId)
    (ho : o.op = .call { callee := .builtin .append, args := #[s, x], argTypes := #[t, t] })
    (base : Nat) (e : TypeId) (i : TypeInfo) (z : Value) (size bytes : Nat) (ht : P.underlying t = some (.slice e)) (hi : P.info? e = some i) (hz : i.zero = some z)
    (hsize : i.size = size) (hby : i.bytes = bytes) (hzs : z.cells.size = size) (hsz : 0 < size)
    (f : α → List Value) (v : Value) (L M : List α) (hs : a.eval s = v) (hown : w.Row base e size f v L)
    (ad : Addr) (m c : Nat) (hm : M.length = m) (hx : a.eval x = .slice (some ad) m c) (hnews : ∀ j u, (M.flatMap f)[j]? = some u → w.cell? (ad.add j) = some u) (h1 : ∀ y ∈ M, ∀ u ∈ f y, u.oneCell' = true)
    (h63 : L.length + m ≤ maxLen) (hbytes : (L.length + m) * bytes ≤ 140737488355328) (hbase : base ≤ w.heap.size)
    (h : ∀ v' w', w'.Row base e size f v' (L ++ M) → w.grownBy w' v.ownBlock → (v'.ownBlock = v.ownBlock ∨ v'.ownBlock = some w.heap.size) →
      S w' ∧ wpQuiet P ops C (fun a2 => wpTl P Dr S C ops Q ks (l.drop k) a2 w') (l.take k) (a.put o.dst v')) :
    wpTl P Dr S C ops Q (k :: ks) (o :: l) a w := by
  refine wpTl_dr (fun n K hK => ?_)
  subst hm
  obtain ⟨v', w', hr, h2, h3, _, h5⟩ := run_append_own_at (P := P) (w.drewN n) base t o.type e i z size bytes ht hi hz hsize hby hzs hsz v L.length (L.flatMap f) hown.own ad M.length c (M.flatMap f) (flat_len f size hown.len M) hnews
    (fun u hu => by obtain ⟨y, hy, hu⟩ := List.mem_flatMap.1 hu; exact h1 y hy u hu) h63 hbytes hbase
  obtain ⟨h6, h7⟩ := h v' w' ⟨hown.len, by rw [List.length_append, List.flatMap_append]; exact h2⟩ ⟨h3.os, h3.tape, h3.output, h3.size, h3.block⟩ h5
  unfold execOp
  simp only [ho, resolve, invoke, builtin, Sem.run_bind, Sem.run_pure, Result.andThen_ok, List.map_toArray, List.map_cons, List.map_nil, hs, hx, hr]
  exact ⟨w', Dr.refl _, h6, hK _ _ h6 h7⟩
end
end Mix
theorem Mix.Ex.cell {w w' : World} (h : Mix.Ex w w') {x : Addr} {v : Value} (hc : w.cell? x = some v) : w'.cell? x = some v := by
  obtain ⟨y, rfl⟩ := h
  obtain ⟨b, o, s⟩ := x
  rw [World.cell?_ext _ _ _ _ _ (World.block_lt_of_cell? w _ hc)]; exact hc
end Go
