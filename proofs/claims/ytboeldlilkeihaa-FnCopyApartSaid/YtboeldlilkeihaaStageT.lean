/- The tree's root, step by step: a first node, 'cow' at the root, a new root over a split one. No program's walk. -/
import Derived.Test.YtboeldlilkeihaaStage
import Derived.Test.YtboeldlilkeihaaTrB
set_option linter.unusedSimpArgs false
set_option linter.unusedVariables false
namespace Go.Proofs.Ytboeldlilkeihaa
open Go.RowKit Go.Bx
theorem cell_of_cells {w : World} {b : Nat} {cs : Array Value} {T : TypeId} {fr : Nat × Nat} (h : w.heap[b]? = some (.cells cs T fr)) (o : Nat) : w.cell? ⟨b, o, none⟩ = cs[o]? := by
  unfold World.cell?; rw [h]; simp
theorem stage_new {c : Int} {Z : Nat → Prop} {w : World} {p q : Nat} (hN : NodeAt w p (newNd c true q)) (hL : ListAt w q (elT true) (zeroE true)) (hpq : p ≠ q) :
    ElAt c Z w 1 (.pointer (some ⟨p, 0, none⟩)) (⟨0, fun _ => (R0, dfl 0)⟩ : Nde (El 0)) (fun b => b = p ∨ b = q) := by
  refine ⟨p, q, c, fun _ => (R0, ⟨.int .i64 0, (0 : Int), fun _ => False⟩), rfl, ⟨hN, ?_, ⟨fun _ => 0, rfl⟩, hpq, Nat.zero_le _⟩, rfl, ?_, .inl ⟨.inl rfl, .inr rfl, ?_, ?_, ?_, .inl rfl⟩⟩
  · have : fE (mp An.v (fun _ => (R0, (⟨.int .i64 0, (0 : Int), fun _ => False⟩ : An 0)))) = zeroE true := by funext i; rfl
    rw [this]; exact hL
  · intro e he; simp [lst] at he
  · rintro b (rfl | rfl)
    · exact hN.lt
    · exact hL.lt
  · intro e he; simp [lst] at he
  · simp [lst]
theorem stage_root {c : Int} {Z : Nat → Prop} {w w' : World} {tr m h : Nat} {t : Nde (El h)} {s : Nat → Prop} {cnt : Int} {r : R} {rt cw : Value} {e : Ending} (hT : TreeAt w tr c cnt r rt cw) (hs : ∀ b, s b → b < w.heap.size) (hts : ¬ s tr) (htZ : ¬ Z tr) (hP : CowPost c Z (w.drewN m) ⟨tr, 6, none⟩ h t s e w') :
    e = .returned (.tuple #[]) ∧ ∃ (W : World) (p q : Nat) (ic : Int) (X : Nat → R × An h) (s2 : Nat → Prop) (d : Nat), w' = W.drewN d ∧ OwnN c Z W h p q ic t X s2 ∧ TreeAt W tr c cnt r (.pointer (some ⟨p, 0, none⟩)) cw ∧ Grew w s s2 ∧ Chg (fun b => b = tr) w W := by
  obtain ⟨he, w1, p, q, ic, X, s2, d, hx, hO, hg, rfl⟩ := hP
  have hx0 : Mix.Ex w w1 := ((Mix.Ex.refl w).drewN m).trans hx
  have hg0 : Grew w s s2 := hg
  have hnt : ¬ s2 tr := fun h => by
    rcases hg0 _ h with h | h
    · exact hts h
    · have := hT.lt; omega
  have hc := (Chg.refl (fun b => b = tr) w1).setCell (x := ⟨tr, 6, none⟩) (.inl rfl) (.pointer (some ⟨p, 0, none⟩))
  refine ⟨he, _, p, q, ic, X, s2, d, rfl, hO.frame (S := fun b => b = tr) (fun b hb => hb ▸ htZ) hc (fun b hb => hb ▸ hnt), (hT.ex hx0).setRoot _, hg0, (Chg.ex hx0).trans hc⟩
/-- The new root's entries. -/
def liftX {h : Nat} (l r : R × An (h + 1)) : Nat → R × An (h + 1) := Bx.upd (Bx.upd (fun _ => (R0, zAn (h + 1))) 0 l) 1 r
theorem stage_lift {c : Int} {Z : Nat → Prop} {w4 w' : World} {tr h pi qi p' q' p2 q2 : Nat} {ici icr : Int} {r : R} {t' : Nde (El h)} {A B : Nat → R × An h} {sl sr : Nat → Prop}
    (hOl : OwnN c Z w4 h pi qi ici (cut (dfl h) r t').1 A sl) (hOr : OwnN c Z w4 h p' q' icr (cut (dfl h) r t').2 B sr) (hsep : ∀ b, sl b → ¬ sr b) (hc : Chg (fun b => b = tr) w4 w') (htZ : ¬ Z tr) (htl : ¬ sl tr) (htr : ¬ sr tr) (hp2 : w4.heap.size ≤ p2) (hq2 : w4.heap.size ≤ q2) (hpq : p2 ≠ q2)
    (hN : NodeAt w' p2 ⟨c, false, 2, q2, fun j => (mp An.v (liftX (bnd (cut (dfl h) r t').1, (⟨.pointer (some ⟨pi, 0, none⟩), (cut (dfl h) r t').1, sl⟩ : An (h + 1))) (bnd (cut (dfl h) r t').2, ⟨.pointer (some ⟨p', 0, none⟩), (cut (dfl h) r t').2, sr⟩)) j).1⟩)
    (hL : ListAt w' q2 (elT false) (fE (mp An.v (liftX (bnd (cut (dfl h) r t').1, (⟨.pointer (some ⟨pi, 0, none⟩), (cut (dfl h) r t').1, sl⟩ : An (h + 1))) (bnd (cut (dfl h) r t').2, ⟨.pointer (some ⟨p', 0, none⟩), (cut (dfl h) r t').2, sr⟩))))) :
    ∃ Y s', OwnN c Z w' (h + 1) p2 q2 c (lift h r t') Y s' ∧ ∀ b, s' b → sl b ∨ sr b ∨ w4.heap.size ≤ b := by
  have hOl' := hOl.frame (S := fun b => b = tr) (fun b hb => hb ▸ htZ) hc (fun b hb => hb ▸ htl)
  have hOr' := hOr.frame (S := fun b => b = tr) (fun b hb => hb ▸ htZ) hc (fun b hb => hb ▸ htr)
  unfold lift
  have hsl : ∀ b, sl b → b < w4.heap.size := hOl.ow.slt
  have hsr : ∀ b, sr b → b < w4.heap.size := hOr.ow.slt
  generalize (cut (dfl h) r t').1 = l at *
  generalize (cut (dfl h) r t').2 = m at *
  have e0 : ∀ (a b : R × An (h + 1)), lst 2 (liftX a b) = [a, b] := fun a b => rfl
  refine ⟨_, fun b => b = p2 ∨ b = q2 ∨ sl b ∨ sr b, ⟨⟨hN, hL, ?_, hpq, by dsimp only; omega⟩, ?_, ?_, ⟨.inl rfl, .inr (.inl rfl), ?_, ?_, ?_, .inl rfl⟩⟩, ?_⟩
  · exact ⟨Bx.upd (Bx.upd (fun _ => none) 0 (some ⟨pi, 0, none⟩)) 1 (some ⟨p', 0, none⟩), by
      funext j
      simp only [fE, mp, liftX, Bx.upd]
      split
      · rfl
      · split <;> rfl⟩
  · funext j
    simp only [mp, liftX, Bx.upd]
    split
    · rfl
    · split <;> rfl
  · intro e he
    dsimp only at he
    rw [e0] at he
    simp only [List.mem_cons, List.not_mem_nil, or_false] at he
    rcases he with rfl | rfl
    · exact hOl'.toEl
    · exact hOr'.toEl
  · have := hc.size
    rintro b (rfl | rfl | hb | hb)
    · exact hN.lt
    · exact hL.lt
    · have := hsl b hb; omega
    · have := hsr b hb; omega
  · intro e he b hb
    dsimp only at he
    rw [e0] at he
    simp only [List.mem_cons, List.not_mem_nil, or_false] at he
    rcases he with rfl | rfl
    · have := hsl b hb; exact ⟨.inr (.inr (.inl hb)), by omega, by omega⟩
    · have := hsr b hb; exact ⟨.inr (.inr (.inr hb)), by omega, by omega⟩
  · dsimp only
    rw [e0]
    simp only [List.pairwise_cons, List.mem_cons, List.not_mem_nil, or_false, forall_eq, List.Pairwise.nil, and_true, false_imp_iff, implies_true]
    exact fun b hb => hsep b hb
  · rintro b (rfl | rfl | hb | hb)
    · exact .inr (.inr hp2)
    · exact .inr (.inr hq2)
    · exact .inl hb
    · exact .inr (.inl hb)
theorem insT_h (s : R) (x : Int) : ∀ (f : Nat) (c : Int) (r : R) (h : Nat) (t : Nde (El h)) (T : Tre), insT s x f c r h t = some T → ∃ q, T.root = some q ∧ h ≤ q.1
  | 0, c, r, h, t, T, e => by simp [insT] at e
  | f + 1, c, r, h, t, T, e => by
    rw [insT] at e
    (try dsimp only at e)
    split at e
    · cases hT : insT s x f c r (h + 1) (lift h r (ins s x h r t).2.2) with
      | none => rw [hT] at e; simp at e
      | some T2 =>
        rw [hT] at e
        simp only [Option.map_some, Option.some.injEq] at e
        obtain ⟨q, h1, h2⟩ := insT_h s x f c r (h + 1) _ T2 hT
        subst e
        exact ⟨⟨q.1, srtB q.1 q.2⟩, by dsimp only; rw [h1]; rfl, by dsimp only; omega⟩
    · split at e
      · simp only [Option.some.injEq] at e; subst e; exact ⟨_, rfl, Nat.le_refl _⟩
      · simp only [Option.some.injEq] at e; subst e; exact ⟨_, rfl, Nat.le_refl _⟩
theorem srtB_pos {h : Nat} (hh : 1 ≤ h) (t : Nde (El h)) : srtB h t = ⟨t.n, qs (keyK 0 false false) t.n t.E 0 t.n⟩ := by
  cases h with
  | zero => omega
  | succ h => rfl
end Go.Proofs.Ytboeldlilkeihaa
namespace Go
open Go.RowKit Go.Bx Go.Proofs.Ytboeldlilkeihaa
section
variable (w : World) (p : Nat) (N : Nd) (c : Int)
@[go_sem] theorem World.cell_i0a (h : p < w.heap.size) : (w.putN p N).cell? ⟨p, 3, none⟩ = some (.int .i64 (N.rc 0).x0) := World.cell_rc0 w p 0 N h (by omega)
@[go_sem] theorem World.cell_i0b (h : p < w.heap.size) : (w.putN p N).cell? ⟨p, 4, none⟩ = some (.int .i64 (N.rc 0).y0) := World.cell_rc1 w p 0 N h (by omega)
@[go_sem] theorem World.cell_i0c (h : p < w.heap.size) : (w.putN p N).cell? ⟨p, 5, none⟩ = some (.int .i64 (N.rc 0).x1) := World.cell_rc2 w p 0 N h (by omega)
@[go_sem] theorem World.cell_i0d (h : p < w.heap.size) : (w.putN p N).cell? ⟨p, 6, none⟩ = some (.int .i64 (N.rc 0).y1) := World.cell_rc3 w p 0 N h (by omega)
@[go_sem] theorem World.cell_i1a (h : p < w.heap.size) : (w.putN p N).cell? ⟨p, 7, none⟩ = some (.int .i64 (N.rc 1).x0) := World.cell_rc0 w p 1 N h (by omega)
@[go_sem] theorem World.cell_i1b (h : p < w.heap.size) : (w.putN p N).cell? ⟨p, 8, none⟩ = some (.int .i64 (N.rc 1).y0) := World.cell_rc1 w p 1 N h (by omega)
@[go_sem] theorem World.cell_i1c (h : p < w.heap.size) : (w.putN p N).cell? ⟨p, 9, none⟩ = some (.int .i64 (N.rc 1).x1) := World.cell_rc2 w p 1 N h (by omega)
@[go_sem] theorem World.cell_i1d (h : p < w.heap.size) : (w.putN p N).cell? ⟨p, 10, none⟩ = some (.int .i64 (N.rc 1).y1) := World.cell_rc3 w p 1 N h (by omega)
@[go_sem] theorem World.setCell_i0a : (w.putN p N).setCell ⟨p, 3, none⟩ (.int .i64 c) = w.putN p (N.setX0 0 c) := World.setCell_rc0 w p 0 N c (by omega)
@[go_sem] theorem World.setCell_i0b : (w.putN p N).setCell ⟨p, 4, none⟩ (.int .i64 c) = w.putN p (N.setY0 0 c) := World.setCell_rc1 w p 0 N c (by omega)
@[go_sem] theorem World.setCell_i0c : (w.putN p N).setCell ⟨p, 5, none⟩ (.int .i64 c) = w.putN p (N.setX1 0 c) := World.setCell_rc2 w p 0 N c (by omega)
@[go_sem] theorem World.setCell_i0d : (w.putN p N).setCell ⟨p, 6, none⟩ (.int .i64 c) = w.putN p (N.setY1 0 c) := World.setCell_rc3 w p 0 N c (by omega)
@[go_sem] theorem World.setCell_i1a : (w.putN p N).setCell ⟨p, 7, none⟩ (.int .i64 c) = w.putN p (N.setX0 1 c) := World.setCell_rc0 w p 1 N c (by omega)
@[go_sem] theorem World.setCell_i1b : (w.putN p N).setCell ⟨p, 8, none⟩ (.int .i64 c) = w.putN p (N.setY0 1 c) := World.setCell_rc1 w p 1 N c (by omega)
@[go_sem] theorem World.setCell_i1c : (w.putN p N).setCell ⟨p, 9, none⟩ (.int .i64 c) = w.putN p (N.setX1 1 c) := World.setCell_rc2 w p 1 N c (by omega)
@[go_sem] theorem World.setCell_i1d : (w.putN p N).setCell ⟨p, 10, none⟩ (.int .i64 c) = w.putN p (N.setY1 1 c) := World.setCell_rc3 w p 1 N c (by omega)
end
end Go
namespace Go.Proofs.Ytboeldlilkeihaa
open Go.RowKit Go.Bx
theorem arr3 {α : Type} (h : Array α) {t p q : Nat} (a : t ≠ p) (b : t ≠ q) (d : p ≠ q) (x y z x' y' z' : α) : (((((h.setIfInBounds t x).setIfInBounds p y).setIfInBounds q z).setIfInBounds t x').setIfInBounds p y').setIfInBounds q z' = ((h.setIfInBounds t x').setIfInBounds p y').setIfInBounds q z' := by
  apply Array.ext_getElem?
  intro i
  simp only [Array.getElem?_setIfInBounds, Array.size_setIfInBounds]
  by_cases h1 : q = i
  · simp [h1]
  · by_cases h2 : p = i
    · simp [h1, h2]
    · by_cases h3 : t = i
      · simp [h1, h2, h3]
      · simp [h1, h2, h3]
theorem reput3 (w : World) {tr p q : Nat} (a : tr ≠ p) (b : tr ≠ q) (d : p ≠ q) (c cnt : Int) (r : R) (rt cw : Value) (N : Nd) (T : TypeId) (f : Nat → Value) (c' cnt' : Int) (r' : R) (rt' cw' : Value) (N' : Nd) (f' : Nat → Value) :
    ((((((w.putT tr c cnt r rt cw).putN p N).putL q T f).putT tr c' cnt' r' rt' cw').putN p N').putL q T f') = (((w.putT tr c' cnt' r' rt' cw').putN p N').putL q T f') := by
  unfold World.putT World.putN World.putL
  dsimp only
  rw [arr3 _ a b d]
theorem re3 {S : Nat → Prop} {a w : World} {tr p q : Nat} {c cnt : Int} {r : R} {rt cw : Value} {N : Nd} {T : TypeId} {f : Nat → Value} (h : Chg S a (((w.putT tr c cnt r rt cw).putN p N).putL q T f)) (h1 : S tr ∨ a.heap.size ≤ tr) (h2 : S p ∨ a.heap.size ≤ p) (h3 : S q ∨ a.heap.size ≤ q) (e1 : tr ≠ p) (e2 : tr ≠ q) (e3 : p ≠ q)
    (c' cnt' : Int) (r' : R) (rt' cw' : Value) (N' : Nd) (f' : Nat → Value) : Chg S a (((w.putT tr c' cnt' r' rt' cw').putN p N').putL q T f') := by
  have k := ((h.putT (c := c') (cnt := cnt') (r := r') (rt := rt') (cw := cw') h1).putN h2 N').putL h3 T f'
  rw [reput3 _ e1 e2 e3] at k
  exact k
/-- The tree's block, a node and its list, told at once. -/
theorem open3 {w : World} {tr p q : Nat} {c cnt : Int} {r : R} {rt cw : Value} {N : Nd} {T : TypeId} {f : Nat → Value} (h : TreeAt w tr c cnt r rt cw) (hN : NodeAt w p N) (hL : ListAt w q T f) :
    ∃ w0 : World, w = ((w0.putT tr c cnt r rt cw).putN p N).putL q T f ∧ tr < w0.heap.size ∧ p < w0.heap.size ∧ q < w0.heap.size ∧ w0 = w :=
  ⟨w, by rw [h.self, hN.self, hL.self], h.lt, hN.lt, hL.lt, rfl⟩
theorem shut3 {w : World} {tr p q : Nat} {c cnt : Int} {r : R} {rt cw : Value} {N : Nd} {T : TypeId} {f : Nat → Value} (h1 : tr < w.heap.size) (h2 : p < w.heap.size) (h3 : q < w.heap.size) (a : tr ≠ p) (b : tr ≠ q) (d : p ≠ q) :
    TreeAt (((w.putT tr c cnt r rt cw).putN p N).putL q T f) tr c cnt r rt cw ∧ NodeAt (((w.putT tr c cnt r rt cw).putN p N).putL q T f) p N ∧ ListAt (((w.putT tr c cnt r rt cw).putN p N).putL q T f) q T f := by
  refine ⟨?_, (NodeAt.put N (by simp; exact h2)).putL_other d.symm, ListAt.put _ _ (by simp; exact h3)⟩
  refine ((TreeAt.put c cnt r rt cw h1).of_block (w' := (w.putT tr c cnt r rt cw).putN p N) ?_).of_block ?_
  · simp only [World.putN]; rw [Array.getElem?_setIfInBounds_ne a.symm]
  · simp only [World.putL]; rw [Array.getElem?_setIfInBounds_ne b.symm]
end Go.Proofs.Ytboeldlilkeihaa
namespace Go.Mix
/-- The worlds in which something holds, as a type of their own. -/
structure Kept (C0 : World → Prop) where
  W : World
  ok : C0 W
/-- Reads of what no write of the region changes (C0 says what is there), beside writes. -/
theorem wp_region_kept {P : Program} {id : Nat} {l : List Oper} {Q : Exit → Act → World → Prop} {a : Act} {w : World} (C0 : World → Prop) (n : Nat) (ks : List Nat) (hm : P.follows .mixedOrders = true) (hB : freeB l n ks = true) (hd : ∀ w n, C0 w → C0 (w.drewN n)) (hs : C0 w)
    (h : wpQuiet P l.toArray (fun W => ∃ y : Kept C0, W = y.W) (fun a' => wpTl P Dr C0 (fun W => ∃ y : Kept C0, W = y.W) l.toArray (fun a w' => ∀ n, Q .normal a (w'.drewN n)) ks (l.drop n) a' w) (l.take n) a) :
    (Code.region id l.toArray true).wp P Q a w := by
  refine wp_region_free n ks hm hB Dr C0 (fun W => ∃ y : Kept C0, W = y.W) (fun W h => ⟨⟨W, h⟩, rfl⟩) Dr.refl (fun w W h k => by obtain ⟨n, rfl⟩ := k; exact hd w n h) ⟨1, rfl⟩ hs ?_
  have : (fun a (w' : World) => ∀ W, Dr w' W → Q .normal a W) = (fun a w' => ∀ n, Q .normal a (w'.drewN n)) := by
    funext a' w'
    simp only [Dr, forall_exists_index, eq_iff_iff]
    exact ⟨fun h n => h _ n rfl, fun h W n hW => hW ▸ h n⟩
  rw [this]
  exact h
end Go.Mix
