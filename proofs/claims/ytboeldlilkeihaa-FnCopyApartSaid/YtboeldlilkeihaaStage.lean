/- What stands between two steps of an insert. -/
import Derived.Test.YtboeldlilkeihaaInsL
import Derived.Test.YtboeldlilkeihaaOwn
import Derived.Test.YtboeldlilkeihaaPln
import Derived.Test.YtboeldlilkeihaaMove
set_option linter.unusedSimpArgs false
set_option linter.unusedVariables false
/- A branch of the tree's own, step by step: 'cow' at a child, a call at a child. No program's walk. -/
namespace Go
open Go.RowKit Go.Bx
theorem Chg.setCell {S : Nat → Prop} {a b : World} (h : Chg S a b) {x : Addr} (hp : S x.block ∨ a.heap.size ≤ x.block) (v : Value) : Chg S a (b.setCell x v) :=
  h.trans' (T := fun i => i = x.block) ⟨rfl, rfl, rfl, by simp, fun k _ hk => by simp only [World.setCell]; rw [Array.getElem?_modify, if_neg (fun e => hk e.symm)]⟩ (fun i hi e => by rcases hp with h | h; exact e ▸ h; omega)
theorem ListAt.setCell {w : World} {q : Nat} {T : TypeId} {f : Nat → Value} (h : ListAt w q T f) (i : Nat) (v : Value) : ListAt (w.setCell ⟨q, i, none⟩ v) q T (upd f i v) := by
  have e : w.setCell ⟨q, i, none⟩ v = w.putL q T (upd f i v) := by
    conv => lhs; rw [← h.self]
    exact World.setCell_putL _ _ _ _ _ _
  rw [e]
  exact ListAt.put _ _ h.lt
theorem ListAt.frz {w : World} {q : Nat} {T : TypeId} {f : Nat → Value} (h : ListAt w q T f) (i : Nat) : w.frozen? ⟨q, i, none⟩ = false := by
  have hl := h.lt
  rw [← h.self]
  exact World.frozen_putL _ _ _ _ _ _ hl
theorem NodeAt.setCell_other {w : World} {p b o : Nat} {s : Option Nat} {N : Nd} (h : NodeAt w p N) (v : Value) (hne : b ≠ p) : NodeAt (w.setCell ⟨b, o, s⟩ v) p N :=
  h.of_block (by simp only [World.setCell]; rw [Array.getElem?_modify, if_neg hne])
end Go
namespace Go.Proofs.Ytboeldlilkeihaa
open Go.RowKit Go.Bx
/-- What a call of 'nodeInsert' finds: the tree's cells, the two boxes, none of them the node's own; the shared blocks. -/
structure InsCtx (c : Int) (Z : Nat → Prop) (w : World) (s : Nat → Prop) (tr rb ro : Nat) (r : R) (b o : Nat) (sR : R) : Prop where
  t0 : w.cell? ⟨tr, 0, none⟩ = some (.int .u64 c)
  t7 : w.cell? ⟨tr, 7, none⟩ = some (.int .i64 0)
  ts : ¬ s tr
  hr : RectAt w rb ro r
  rs : ¬ s rb
  hs : RectAt w b o sR
  bs : ¬ s b
  sZ : ∀ k, s k → ¬ Z k
  zlt : ∀ k, Z k → k < w.heap.size
theorem InsCtx.step {c : Int} {Z : Nat → Prop} {w w' : World} {s s' S : Nat → Prop} {tr rb ro : Nat} {r : R} {b o : Nat} {sR : R} (k : InsCtx c Z w s tr rb ro r b o sR) (hc : Chg S w w') (hS : ∀ x, S x → s x) (hg : Grew w s s') : InsCtx c Z w' s' tr rb ro r b o sR := by
  have h0 := World.block_lt_of_cell? w _ k.t0
  have h1 := World.block_lt_of_cell? w _ k.hr.1
  have h2 := World.block_lt_of_cell? w _ k.hs.1
  dsimp only at h0 h1 h2
  refine ⟨hc.cell k.t0 (fun h => k.ts (hS _ h)), hc.cell k.t7 (fun h => k.ts (hS _ h)), fun h => ?_, hc.rect k.hr (fun h => k.rs (hS _ h)), fun h => ?_, hc.rect k.hs (fun h => k.bs (hS _ h)), fun h => ?_, fun x hx hz => ?_, fun x hx => Nat.lt_of_lt_of_le (k.zlt x hx) hc.size⟩
  · rcases hg _ h with h | h
    · exact k.ts h
    · omega
  · rcases hg _ h with h | h
    · exact k.rs h
    · omega
  · rcases hg _ h with h | h
    · exact k.bs h
    · omega
  · rcases hg _ hx with h | h
    · exact k.sZ _ h hz
    · have := k.zlt _ hz; omega
/-- The same for a child's call: its box is the entry's. -/
theorem InsCtx.child {c : Int} {Z : Nat → Prop} {w : World} {h p q : Nat} {ic : Int} {t : Nde (El h)} {X : Nat → R × An h} {s : Nat → Prop} {tr rb ro : Nat} {r : R} {b o : Nat} {sR : R} (k : InsCtx c Z w s tr rb ro r b o sR) (hO : OwnN c Z w h p q ic t X s) {i : Nat} (hi : i < t.n) :
    InsCtx c Z w (X i).2.s tr p (3 + i * 4) (X i).1 b o sR := by
  have h64 := hO.nx.n64
  have hsub := hO.esub hi
  exact ⟨k.t0, k.t7, fun h => k.ts (hsub _ h).1, rectAt_node hO.nx.nd (i := i) (by omega), fun h => (hsub _ h).2.1 rfl, k.hs, fun h => k.bs (hsub _ h).1, fun x hx => k.sZ x (hsub x hx).1, k.zlt⟩
theorem OwnN.drewN {c : Int} {Z : Nat → Prop} {w : World} {h p q : Nat} {ic : Int} {t : Nde (El h)} {X : Nat → R × An h} {s : Nat → Prop} (k : OwnN c Z w h p q ic t X s) (m : Nat) : OwnN c Z (w.drewN m) h p q ic t X s :=
  k.frame (S := fun _ => False) (fun _ h => h.elim) (Chg.ex ((Mix.Ex.refl w).drewN m)) (fun _ h => h.elim)
theorem OwnN.undrewN {c : Int} {Z : Nat → Prop} {w : World} {h p q : Nat} {ic : Int} {t : Nde (El h)} {X : Nat → R × An h} {s : Nat → Prop} {m : Nat} (k : OwnN c Z (w.drewN m) h p q ic t X s) : OwnN c Z w h p q ic t X s :=
  k.frame (S := fun _ => False) (fun _ h => h.elim) ⟨rfl, rfl, rfl, Nat.le_refl _, fun _ _ _ => rfl⟩ (fun _ h => h.elim)
theorem ElAt.drewN {c : Int} {Z : Nat → Prop} {w : World} {h : Nat} {v : Value} {t : El h} {s : Nat → Prop} (k : ElAt c Z w h v t s) (m : Nat) : ElAt c Z (w.drewN m) h v t s :=
  k.frame (S := fun _ => False) (fun _ h => h.elim) (Chg.ex ((Mix.Ex.refl w).drewN m)) (fun _ h => h.elim)
theorem InsCtx.drewN {c : Int} {Z : Nat → Prop} {w : World} {s : Nat → Prop} {tr rb ro : Nat} {r : R} {b o : Nat} {sR : R} (k : InsCtx c Z w s tr rb ro r b o sR) (m : Nat) : InsCtx c Z (w.drewN m) s tr rb ro r b o sR :=
  k.step (S := fun _ => False) (Chg.ex ((Mix.Ex.refl w).drewN m)) (fun _ h => h.elim) (Grew.refl _ _)
theorem upd_self {α : Type} (E : Nat → α) (i : Nat) : Bx.upd E i (E i) = E := by
  funext j; unfold Bx.upd; split
  · rename_i h; rw [h]
  · rfl
theorem fE_mp_upd {h : Nat} (X : Nat → R × An h) (i : Nat) (e : R × An h) : fE (mp An.v (Bx.upd X i e)) = Bx.upd (fE (mp An.v X)) i e.2.v := by rw [mp_upd, fE_upd]
theorem fst_upd_same {α : Type} (X : Nat → R × α) (i : Nat) (x : α) : (fun j => (Bx.upd X i ((X i).1, x) j).1) = fun j => (X j).1 := by
  funext j; unfold Bx.upd; split
  · rename_i h; rw [h]
  · rfl
theorem Fit.ptr {f : Nat → Value} (h : Fit false f) (i p : Nat) : Fit false (Bx.upd f i (.pointer (some ⟨p, 0, none⟩))) := by
  obtain ⟨g, rfl⟩ := h
  exact ⟨Bx.upd g i (some ⟨p, 0, none⟩), by funext j; simp only [Bx.upd]; split <;> rfl⟩
/-- Behind 'cow' at the i-th child. -/
theorem stage_cow {c : Int} {Z : Nat → Prop} {w w' : World} {h p q m i : Nat} {ic : Int} {nd : Nde (El (h + 1))} {X : Nat → R × An (h + 1)} {s : Nat → Prop} {e : Ending} (hO : OwnN c Z w (h + 1) p q ic nd X s) (hsZ : ∀ b, s b → ¬ Z b) (hi : i < nd.n)
    (hP : CowPost c Z (w.drewN m) ⟨q, i, none⟩ h (X i).2.t (X i).2.s e w') :
    e = .returned (.tuple #[]) ∧ ∃ (W : World) (pi qi : Nat) (ici : Int) (Xc : Nat → R × An h) (X2 : Nat → R × An (h + 1)) (s2 : Nat → Prop) (d : Nat), w' = W.drewN d ∧ OwnN c Z W h pi qi ici (X i).2.t Xc (X2 i).2.s ∧ (∀ j, (X2 j).1 = (X j).1) ∧
      (X2 i).2.v = .pointer (some ⟨pi, 0, none⟩) ∧ (X2 i).2.t = (X i).2.t ∧ OwnN c Z W (h + 1) p q ic nd X2 s2 ∧ Grew w s s2 ∧ Chg s w W := by
  obtain ⟨he, w1, pi, qi, ici, Xc, sc, d, hx, hOc, hg, rfl⟩ := hP
  have hx0 : Mix.Ex w w1 := ((Mix.Ex.refl w).drewN m).trans hx
  have hg0 : Grew w (X i).2.s sc := hg
  have hc : Chg (fun b => b = q) w (w1.setCell ⟨q, i, none⟩ (.pointer (some ⟨pi, 0, none⟩))) := (Chg.ex (S := fun b => b = q) hx0).setCell (x := ⟨q, i, none⟩) (.inl rfl) _
  have hq := hO.esub hi
  have hscq : ¬ sc q := fun hq' => by
    rcases hg0 _ hq' with h | h
    · exact (hq _ h).2.2 rfl
    · have := hO.ow.slt _ hO.ow.sq; omega
  have hOc2 : OwnN c Z (w1.setCell ⟨q, i, none⟩ (.pointer (some ⟨pi, 0, none⟩))) h pi qi ici (X i).2.t Xc sc :=
    hOc.frame (S := fun b => b = q) (fun b hb => by subst hb; exact hsZ _ hO.ow.sq) ((Chg.refl (fun b => b = q) _).setCell (x := ⟨q, i, none⟩) (.inl rfl) _) (fun b hb => by subst hb; exact hscq)
  have hL := (hO.nx.ls.ex hx0).setCell i (.pointer (some ⟨pi, 0, none⟩))
  have hN := (hO.nx.nd.ex hx0).setCell_other (o := i) (s := none) (.pointer (some ⟨pi, 0, none⟩)) hO.nx.pq.symm
  obtain ⟨k1, k2, k3⟩ := hO.put_child (e' := ((X i).1, ⟨.pointer (some ⟨pi, 0, none⟩), (X i).2.t, sc⟩)) hi hsZ hc (fun b hb => .inr (.inr hb)) (by rw [fst_upd_same]; exact hN) (by rw [fE_mp_upd]; exact hL) (by rw [fE_mp_upd]; exact Fit.ptr hO.nx.fit _ _) hOc2.toEl hg0
  have hnd : (⟨nd.n, Bx.upd nd.E i ((X i).1, (X i).2.t)⟩ : Nde (El (h + 1))) = nd := by rw [← hO.et i, upd_self]
  dsimp only at k1
  rw [hnd] at k1
  refine ⟨he, _, pi, qi, ici, Xc, Bx.upd X i ((X i).1, ⟨.pointer (some ⟨pi, 0, none⟩), (X i).2.t, sc⟩), _, d, rfl, ?_, ?_, ?_, ?_, k1, k2, k3⟩
  · rw [upd_same]; exact hOc2
  · intro j; exact congrFun (fst_upd_same X i _) j
  · rw [upd_same]
  · rw [upd_same]
/-- Behind a call at the i-th child. -/
theorem stage_child {c : Int} {Z : Nat → Prop} {W W' : World} {h p q pi qi m i : Nat} {ic ici : Int} {nd : Nde (El (h + 1))} {t' : Nde (El h)} {X : Nat → R × An (h + 1)} {Xc : Nat → R × An h} {s sc : Nat → Prop} (hO : OwnN c Z W (h + 1) p q ic nd X s) (hsZ : ∀ b, s b → ¬ Z b) (hi : i < nd.n) (hv : (X i).2.v = .pointer (some ⟨pi, 0, none⟩))
    (hOc : OwnN c Z W' h pi qi ici t' Xc sc) (hg : Grew (W.drewN m) (X i).2.s sc) (hc : Chg (X i).2.s (W.drewN m) W') :
    ∃ (X3 : Nat → R × An (h + 1)) (s3 : Nat → Prop), X3 = Bx.upd X i ((X i).1, ⟨.pointer (some ⟨pi, 0, none⟩), t', sc⟩) ∧ OwnN c Z W' (h + 1) p q ic ⟨nd.n, Bx.upd nd.E i ((X i).1, t')⟩ X3 s3 ∧ Grew W s s3 ∧ Chg s W W' := by
  have hc0 : Chg (X i).2.s W W' := ((Chg.ex ((Mix.Ex.refl W).drewN m))).trans hc
  have hsub := hO.esub hi
  have hN := hc0.node hO.nx.nd (fun h => (hsub _ h).2.1 rfl)
  have hL := hc0.list hO.nx.ls (fun h => (hsub _ h).2.2 rfl)
  have e1 : Bx.upd (fE (mp An.v X)) i (.pointer (some ⟨pi, 0, none⟩)) = fE (mp An.v X) := by
    rw [← hv]
    exact upd_self (fE (mp An.v X)) i
  obtain ⟨k1, k2, k3⟩ := hO.put_child (e' := ((X i).1, ⟨.pointer (some ⟨pi, 0, none⟩), t', sc⟩)) hi hsZ hc0 (fun b hb => .inl hb) (by rw [fst_upd_same]; exact hN) (by rw [fE_mp_upd]; dsimp only; rw [e1]; exact hL) (by rw [fE_mp_upd]; dsimp only; rw [e1]; exact hO.nx.fit) hOc.toEl hg
  exact ⟨_, _, rfl, k1, k2, k3⟩
end Go.Proofs.Ytboeldlilkeihaa
/- A branch behind the call at a child: the box grown, the child split. No program's walk. -/
namespace Go
open Go.RowKit Go.Bx
end Go
namespace Go.Proofs.Ytboeldlilkeihaa
open Go.RowKit Go.Bx
/-- One round of insB, told by its own child and what became of it. -/
theorem insB_at {h : Nat} {sR : R} {x : Int} {k i n : Nat} {r ri : R} {nd : Nde (Nde (El h))} {X : Nat → R × An (h + 1)} {tc t' : Nde (El h)} {sp g : Bool} (hE : nd.E = mp An.t X) (hn : nd.n = n) (hi : pick X n sR = i) (hr : (X i).1 = ri) (ht : (X i).2.t = tc) (hy : ins sR x h ri tc = (sp, g, t')) :
    insB (dfl h) (ins sR x h) sR (k + 1) r nd = if sp = true then (if n = 64 then (true, false, ⟨n, Bx.upd nd.E i (ri, t')⟩) else insB (dfl h) (ins sR x h) sR k r (cleaveAt (dfl h) nd i t'))
      else if g = true then (false, !r.contains sR, ⟨n, ordL (Bx.upd nd.E i (ri.expand sR, t')) i⟩) else (false, false, ⟨n, Bx.upd nd.E i (ri, t')⟩) := by
  have hp : pick nd.E n sR = i := by rw [hE, mp_pick]; exact hi
  have e1 : nd.E i = (ri, tc) := by
    rw [hE]
    show ((X i).1, (X i).2.t) = _
    rw [hr, ht]
  rw [insB]
  (try dsimp only)
  rw [hn, hp, e1]
  (try dsimp only)
  rw [hy]
theorem setRect_node {w : World} {p : Nat} {ic : Int} {b : Bool} {c : Int} {q : Nat} {rc : Nat → R} (hN : NodeAt w p ⟨ic, b, c, q, rc⟩) {i : Nat} (hi : i < 64) (r : R) : setRect w p (3 + i * 4) r = w.putN p ⟨ic, b, c, q, Bx.upd rc i r⟩ := by
  have e : setRect (w.putN p ⟨ic, b, c, q, rc⟩) p (3 + i * 4) r = w.putN p ⟨ic, b, c, q, Bx.upd rc i r⟩ := by
    unfold setRect
    rw [World.setCell_rc0 _ _ _ _ _ hi, World.setCell_rc1 _ _ _ _ _ hi, World.setCell_rc2 _ _ _ _ _ hi, World.setCell_rc3 _ _ _ _ _ hi, Nd.set4]
    rfl
  rw [hN.self] at e
  exact e
theorem map_snd_upd {α : Type} (X : Nat → R × α) (n i : Nat) (r : R) : (lst n (Bx.upd X i (r, (X i).2))).map (·.2) = (lst n X).map (·.2) := by
  unfold lst
  rw [List.map_map, List.map_map]
  refine List.map_congr_left fun j _ => ?_
  show (Bx.upd X i (r, (X i).2) j).2 = (X j).2
  unfold Bx.upd
  split
  · rename_i h; rw [h]
  · rfl
/-- The box of an entry is another one, and the entry has gone left. -/
theorem stage_left {c : Int} {Z : Nat → Prop} {w w' : World} {h p q i : Nat} {ic : Int} {t : Nde (El h)} {X : Nat → R × An h} {s : Nat → Prop} {r' : R} (k : OwnN c Z w h p q ic t X s) (hi : i < t.n) (hsZ : ∀ b, s b → ¬ Z b) (hc : Chg (fun b => b = p ∨ b = q) w w')
    (hN : NodeAt w' p ⟨ic, leafB h, t.n, q, fun j => (ordL (mp An.v (Bx.upd X i (r', (X i).2))) i j).1⟩) (hL : ListAt w' q (elT (leafB h)) (fE (ordL (mp An.v (Bx.upd X i (r', (X i).2))) i))) (hf : Fit (leafB h) (fE (ordL (mp An.v (Bx.upd X i (r', (X i).2))) i))) :
    ∃ Y, OwnN c Z w' h p q ic ⟨t.n, ordL (Bx.upd t.E i (r', (t.E i).2)) i⟩ Y s ∧ Chg s w w' := by
  rw [mp_ordL] at hN hL hf
  obtain ⟨k1, k2⟩ := k.perm (Y := ordL (Bx.upd X i (r', (X i).2)) i) hsZ hc hN hL hf (by
    rw [← map_snd_upd X t.n i r']
    exact (ordL_perm t.n i _ hi).map _)
  have e : mp An.t (ordL (Bx.upd X i (r', (X i).2)) i) = ordL (Bx.upd t.E i (r', (t.E i).2)) i := by
    rw [← mp_ordL, mp_upd, k.tE]
    rfl
  rw [e] at k1
  exact ⟨_, k1, k2⟩
theorem comp {w W W' : World} {s s2 s3 : Nat → Prop} (hg2 : Grew w s s2) (hc2 : Chg s w W) (hg3 : Grew W s2 s3) (hc3 : Chg s2 W W') : Grew w s s3 ∧ Chg s w W' :=
  ⟨hg2.trans hg3 hc2.size, hc2.trans' hc3 fun i hi h => by
    rcases hg2 i h with h | h
    · exact h
    · omega⟩
theorem upd_upd {α : Type} (E : Nat → α) (i : Nat) (a b : α) : Bx.upd (Bx.upd E i a) i b = Bx.upd E i b := by
  funext j; unfold Bx.upd; split <;> rfl
theorem fE_mp_rect {h : Nat} (X : Nat → R × An h) (i : Nat) (r : R) : fE (mp An.v (Bx.upd X i (r, (X i).2))) = fE (mp An.v X) := by
  rw [fE_mp_upd]; exact upd_self (fE (mp An.v X)) i
theorem fst_mp_rect {h : Nat} (X : Nat → R × An h) (i : Nat) (r : R) : (fun j => (mp An.v (Bx.upd X i (r, (X i).2)) j).1) = Bx.upd (fun j => (X j).1) i r := by
  funext j; simp only [mp, Bx.upd]; split <;> rfl
end Go.Proofs.Ytboeldlilkeihaa
namespace Go
open Go.RowKit Go.Bx Go.Proofs.Ytboeldlilkeihaa
theorem NodeAt.frz {w : World} {p : Nat} {N : Nd} (h : NodeAt w p N) (o : Nat) : w.frozen? ⟨p, o, none⟩ = false := by
  have hl := h.lt
  rw [← h.self]; exact World.frozen_putN _ _ _ _ _ hl
end Go
namespace Go.Proofs.Ytboeldlilkeihaa
open Go.RowKit Go.Bx
theorem ordL_ind {α : Type} (P : (Nat → R × α) → Prop) (hP : ∀ E i j, P E → P (swapF E i j)) : ∀ (i : Nat) (E : Nat → R × α), P E → P (ordL E i)
  | 0, _, h => h
  | i + 1, E, h => by
    rw [ordL]
    split
    · exact ordL_ind P hP i _ (hP _ _ _ h)
    · exact h
theorem ordR_ind {α : Type} (P : (Nat → R × α) → Prop) (hP : ∀ E i j, P E → P (swapF E i j)) (n : Nat) : ∀ (f i : Nat) (E : Nat → R × α), P E → P (ordR E n f i)
  | 0, _, _, h => h
  | f + 1, i, E, h => by
    rw [ordR]
    split
    · exact ordR_ind P hP n f (i + 1) _ (hP _ _ _ h)
    · exact h
theorem Fit.ordL {b : Bool} {E : Ent} (h : Fit b (fE E)) (i : Nat) : Fit b (fE (Bx.ordL E i)) := ordL_ind (fun E => Fit b (fE E)) (fun _ _ _ h => Fit.swapE h _ _) i E h
theorem Fit.ordR {b : Bool} {E : Ent} (h : Fit b (fE E)) (n f i : Nat) : Fit b (fE (Bx.ordR E n f i)) := ordR_ind (fun E => Fit b (fE E)) (fun _ _ _ h => Fit.swapE h _ _) n f i E h
end Go.Proofs.Ytboeldlilkeihaa
namespace Go
open Go.RowKit Go.Bx Go.Proofs.Ytboeldlilkeihaa
theorem Chg.putE {S : Nat → Prop} {a b : World} (h : Chg S a b) {p : Nat} {N : Nd} (hp : S p ∨ a.heap.size ≤ p) (hq : S N.q ∨ a.heap.size ≤ N.q) (T : TypeId) (E : Ent) : Chg S a (b.putE p N T E) := (h.putN hp _).putL hq _ _
end Go
namespace Go.Proofs.Ytboeldlilkeihaa
open Go.RowKit Go.Bx
end Go.Proofs.Ytboeldlilkeihaa
/- A branch whose child was split. No program's walk. -/
namespace Go.Proofs.Ytboeldlilkeihaa
open Go.RowKit Go.Bx
end Go.Proofs.Ytboeldlilkeihaa
namespace Go
open Go.RowKit Go.Bx Go.Proofs.Ytboeldlilkeihaa
theorem World.reput (w : World) {p q : Nat} (h : q ≠ p) (N M : Nd) (T : TypeId) (f g : Nat → Value) : (((w.putN p N).putL q T f).putN p M).putL q T g = (w.putN p M).putL q T g := by
  rw [World.putN_putL _ _ _ _ _ _ h, World.putN_putN, World.putL_putL]
end Go
namespace Go.Proofs.Ytboeldlilkeihaa
open Go.RowKit Go.Bx
theorem cleave_upd {α : Type} (E : Nat → R × α) (n i : Nat) (a l r : R × α) : cleave (Bx.upd E i a) n i l r = cleave E n i l r := by
  unfold cleave
  rw [upd_upd]
/-- The parent behind the split. -/
theorem stage_split {c : Int} {Z : Nat → Prop} {w w4 w' : World} {h p q pi qi p' q' i kk : Nat} {ic ici icr : Int} {nd : Nde (El (h + 1))} {t' : Nde (El h)} {X : Nat → R × An (h + 1)} {A B : Nat → R × An h} {s sc sl sr : Nat → Prop} {ri : R}
    (hO : OwnN c Z w (h + 1) p q ic ⟨kk, Bx.upd nd.E i (ri, t')⟩ X s) (hkk : nd.n = kk) (hi : i < kk) (h64 : kk < 64) (hri : (nd.E i).1 = ri) (hXi : X i = (ri, ⟨.pointer (some ⟨pi, 0, none⟩), t', sc⟩)) (hsZ : ∀ b, s b → ¬ Z b) (hZ : ∀ b, Z b → b < w.heap.size)
    (hOl : OwnN c Z w4 h pi qi ici (cut (dfl h) ri t').1 A sl) (hOr : OwnN c Z w4 h p' q' icr (cut (dfl h) ri t').2 B sr) (hsl : ∀ b, sl b → sc b) (hgr : Grew w sc sr) (hsep : ∀ b, sl b → ¬ sr b) (hc4 : Chg (fun b => b = pi ∨ b = qi) w w4) (hpi : sc pi) (hqi : sc qi) (hc : Chg (fun b => b = p ∨ b = q) w4 w')
    (hN : NodeAt w' p ⟨ic, false, (kk + 1 : Nat), q, fun j => (cleave (mp An.v X) kk i (bnd (cut (dfl h) ri t').1, .pointer (some ⟨pi, 0, none⟩)) (bnd (cut (dfl h) ri t').2, .pointer (some ⟨p', 0, none⟩)) j).1⟩)
    (hL : ListAt w' q (elT false) (fE (cleave (mp An.v X) kk i (bnd (cut (dfl h) ri t').1, .pointer (some ⟨pi, 0, none⟩)) (bnd (cut (dfl h) ri t').2, .pointer (some ⟨p', 0, none⟩)))))
    (hf : Fit false (fE (cleave (mp An.v X) kk i (bnd (cut (dfl h) ri t').1, .pointer (some ⟨pi, 0, none⟩)) (bnd (cut (dfl h) ri t').2, .pointer (some ⟨p', 0, none⟩))))) :
    ∃ Y s', OwnN c Z w' (h + 1) p q ic (cleaveAt (dfl h) nd i t') Y s' ∧ Grew w s s' ∧ Chg s w w' := by
  have hsub := hO.esub (i := i) hi
  rw [hXi] at hsub
  dsimp only at hsub
  generalize hl : (cut (dfl h) ri t').1 = l at *
  generalize hr : (cut (dfl h) ri t').2 = r at *
  have ev : cleave (mp An.v X) kk i (bnd l, .pointer (some ⟨pi, 0, none⟩)) (bnd r, .pointer (some ⟨p', 0, none⟩)) = mp An.v (cleave X kk i (bnd l, (⟨.pointer (some ⟨pi, 0, none⟩), l, sl⟩ : An (h + 1))) (bnd r, ⟨.pointer (some ⟨p', 0, none⟩), r, sr⟩)) :=
    mp_cleave An.v X kk i (bnd l, (⟨.pointer (some ⟨pi, 0, none⟩), l, sl⟩ : An (h + 1))) (bnd r, ⟨.pointer (some ⟨p', 0, none⟩), r, sr⟩)
  have et : cleave (mp An.t X) kk i (bnd l, l) (bnd r, r) = mp An.t (cleave X kk i (bnd l, (⟨.pointer (some ⟨pi, 0, none⟩), l, sl⟩ : An (h + 1))) (bnd r, ⟨.pointer (some ⟨p', 0, none⟩), r, sr⟩)) :=
    mp_cleave An.t X kk i (bnd l, (⟨.pointer (some ⟨pi, 0, none⟩), l, sl⟩ : An (h + 1))) (bnd r, ⟨.pointer (some ⟨p', 0, none⟩), r, sr⟩)
  rw [ev] at hN hL hf
  have hper := cleave_perm X kk i (bnd l, (⟨.pointer (some ⟨pi, 0, none⟩), l, sl⟩ : An (h + 1))) (bnd r, ⟨.pointer (some ⟨p', 0, none⟩), r, sr⟩) hi
  have hgl : Grew w sc sl := fun b hb => .inl (hsl b hb)
  have hcc : Chg (fun b => sc b ∨ b = p ∨ b = q) w w' := (hc4.mono (T := fun b => sc b ∨ b = p ∨ b = q) (fun b hb => by rcases hb with rfl | rfl; exact .inl hpi; exact .inl hqi)).trans (hc.mono (fun b hb => .inr hb))
  have hnp : ∀ g : Nat → Prop, Grew w sc g → ∀ b, (b = p ∨ b = q) → ¬ g b := fun g hg b hb hb' => by
    rcases hg b hb' with h1 | h1
    · rcases hb with rfl | rfl
      · exact (hsub _ h1).2.1 rfl
      · exact (hsub _ h1).2.2 rfl
    · have e1 := hO.ow.slt _ hO.ow.sp
      have e2 := hO.ow.slt _ hO.ow.sq
      rcases hb with rfl | rfl <;> omega
  have hpqZ : ∀ b, (b = p ∨ b = q) → ¬ Z b := fun b hb => by rcases hb with rfl | rfl; exact hsZ _ hO.ow.sp; exact hsZ _ hO.ow.sq
  have hOl' := hOl.frame hpqZ hc (hnp sl hgl)
  have hOr' := hOr.frame hpqZ hc (hnp sr hgr)
  obtain ⟨k1, k2, k3⟩ := hO.split_child (Y := cleave X kk i (bnd l, (⟨.pointer (some ⟨pi, 0, none⟩), l, sl⟩ : An (h + 1))) (bnd r, ⟨.pointer (some ⟨p', 0, none⟩), r, sr⟩)) (n' := kk + 1) (l := (bnd l, ⟨.pointer (some ⟨pi, 0, none⟩), l, sl⟩)) (r := (bnd r, ⟨.pointer (some ⟨p', 0, none⟩), r, sr⟩)) (i := i) hi hsZ hcc
    (fun b hb => by rw [hXi]; exact hb) hper hN hL hf (by omega) hOl'.toEl hOr'.toEl hsep (by rw [hXi]; exact hgl) (by rw [hXi]; exact hgr)
  have e : cleaveAt (dfl h) nd i t' = ⟨kk + 1, mp An.t (cleave X kk i (bnd l, (⟨.pointer (some ⟨pi, 0, none⟩), l, sl⟩ : An (h + 1))) (bnd r, ⟨.pointer (some ⟨p', 0, none⟩), r, sr⟩))⟩ := by
    unfold cleaveAt
    rw [hkk, hri, hl, hr, ← et]
    have : mp An.t X = Bx.upd nd.E i (ri, t') := hO.tE.symm
    rw [this, cleave_upd]
  rw [← e] at k1
  exact ⟨_, _, k1, k2, k3⟩
end Go.Proofs.Ytboeldlilkeihaa
namespace Go.Mix
/-- Steps that look at no memory, beside writes; draws alone. -/
theorem wp_region_pure {P : Program} {id : Nat} {l : List Oper} {Q : Exit → Act → World → Prop} {a : Act} {w : World} (n : Nat) (ks : List Nat) (hm : P.follows .mixedOrders = true) (hB : freeB l n ks = true)
    (h : wpQuiet P l.toArray (fun _ => True) (fun a' => wpTl P Dr (fun _ => True) (fun _ => True) l.toArray (fun a w' => ∀ n, Q .normal a (w'.drewN n)) ks (l.drop n) a' w) (l.take n) a) :
    (Code.region id l.toArray true).wp P Q a w := by
  refine wp_region_free n ks hm hB Dr (fun _ => True) (fun _ => True) (fun _ h => h) Dr.refl (fun _ _ _ _ => trivial) ⟨1, rfl⟩ trivial ?_
  have : (fun a (w' : World) => ∀ W, Dr w' W → Q .normal a W) = (fun a w' => ∀ n, Q .normal a (w'.drewN n)) := by
    funext a' w'
    simp only [Dr, forall_exists_index, eq_iff_iff]
    exact ⟨fun h n => h _ n rfl, fun h W n hW => hW ▸ h n⟩
  rw [this]
  exact h
end Go.Mix
/- 'sort' at a node of the tree's own. -/
namespace Go.Proofs.Ytboeldlilkeihaa
open Go.RowKit Go.Bx
theorem sortN_c {c : Int} {Z : Nat → Prop} {w : World} {h p q : Nat} {ic : Int} {t : Nde (El h)} {X : Nat → R × An h} {s : Nat → Prop} (k : OwnN c Z w h p q ic t X s) (hsZ : ∀ b, s b → ¬ Z b) (d : Nat) :
    Calls Try.prog 84 #[.pointer (some ⟨p, 0, none⟩)] (w.drewN d) fun e w' => e = .returned (.tuple #[]) ∧ ∃ X', OwnN c Z w' h p q ic ⟨t.n, Bx.qs (keyK 0 false false) t.n t.E 0 t.n⟩ X' s ∧ Chg s w w' := by
  have hself : w.putE p ⟨ic, leafB h, t.n, q, fun i => (X i).1⟩ (elT (leafB h)) (mp An.v X) = w := putE_self k.nx.nd k.nx.ls
  have hS := sort_c w p ⟨ic, leafB h, t.n, q, fun i => (X i).1⟩ k.nx.nd.lt k.nx.ls.lt k.nx.pq t.n (mp An.v X) d rfl k.nx.n64 k.nx.fit
  dsimp only at hS
  rw [hself] at hS
  refine hS.mono ?_
  rintro e w' ⟨rfl, d', rfl⟩
  have hN := NodeAt.putE w p ⟨ic, leafB h, t.n, q, fun i => (X i).1⟩ (elT (leafB h)) (Bx.qs (keyK 0 false false) t.n (mp An.v X) 0 t.n) k.nx.nd.lt k.nx.pq.symm
  have hL := ListAt.putE w p ⟨ic, leafB h, t.n, q, fun i => (X i).1⟩ (elT (leafB h)) (Bx.qs (keyK 0 false false) t.n (mp An.v X) 0 t.n) k.nx.ls.lt
  have hc := (Chg.refl (fun b => b = p ∨ b = q) w).putE (p := p) (N := ⟨ic, leafB h, t.n, q, fun i => (X i).1⟩) (.inl (.inl rfl)) (.inl (.inr rfl)) (elT (leafB h)) (Bx.qs (keyK 0 false false) t.n (mp An.v X) 0 t.n)
  have hf := Fit.qs (keyK 0 false false) t.n _ 0 t.n k.nx.fit
  rw [mp_qs] at hN hL hc hf
  obtain ⟨k1, k2⟩ := k.perm (Y := Bx.qs (keyK 0 false false) t.n X 0 t.n) hsZ hc hN hL hf ((qs_perm _ _ _).map _)
  have e : mp An.t (Bx.qs (keyK 0 false false) t.n X 0 t.n) = Bx.qs (keyK 0 false false) t.n t.E 0 t.n := by rw [← mp_qs, ← k.tE]
  rw [e] at k1
  rw [mp_qs]
  exact ⟨rfl, _, k1.drewN _, k2.drewN _⟩
end Go.Proofs.Ytboeldlilkeihaa
