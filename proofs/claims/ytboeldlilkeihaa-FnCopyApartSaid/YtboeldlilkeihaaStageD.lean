/- A branch behind the call of 'nodeDelete' at a child. No program's walk. -/
import Derived.Test.YtboeldlilkeihaaDelA
set_option linter.unusedSimpArgs false
set_option linter.unusedVariables false
namespace Go.Proofs.Ytboeldlilkeihaa
open Go.RowKit Go.Bx
/-- As put_child, where blocks of nobody's may have changed too. -/
theorem OwnN.put_child2 {c : Int} {Z : Nat → Prop} {w w' : World} {h p q : Nat} {ic : Int} {t : Nde (El h)} {X : Nat → R × An h} {s S : Nat → Prop} {i : Nat} {e' : R × An h} (k : OwnN c Z w h p q ic t X s) (hi : i < t.n) (hsZ : ∀ b, s b → ¬ Z b) (hc : Chg S w w')
    (hS : ∀ b, S b → (X i).2.s b ∨ b = p ∨ b = q ∨ (¬ s b ∧ ¬ Z b)) (hN : NodeAt w' p ⟨ic, leafB h, t.n, q, fun j => (Bx.upd X i e' j).1⟩) (hL : ListAt w' q (elT (leafB h)) (fE (mp An.v (Bx.upd X i e')))) (hf : Fit (leafB h) (fE (mp An.v (Bx.upd X i e'))))
    (hE : ElAt c Z w' h e'.2.v e'.2.t e'.2.s) (hg : Grew w (X i).2.s e'.2.s) :
    OwnN c Z w' h p q ic ⟨t.n, Bx.upd t.E i (e'.1, e'.2.t)⟩ (Bx.upd X i e') (fun b => s b ∨ e'.2.s b) ∧ Grew w s (fun b => s b ∨ e'.2.s b) := by
  have hSZ : ∀ b, S b → ¬ Z b := fun b hb => by
    rcases hS b hb with h | rfl | rfl | h
    · exact hsZ b (k.esub hi b h).1
    · exact hsZ _ k.ow.sp
    · exact hsZ _ k.ow.sq
    · exact h.2
  have hrest : ∀ f, f ∈ lst t.n (Bx.upd X i e') → f = e' ∨ ∃ j, j < t.n ∧ j ≠ i ∧ f = X j := fun f hm => by
    obtain ⟨j, hj, rfl⟩ := mem_lst.1 hm
    by_cases e : j = i
    · subst e; exact .inl (upd_same _ _ _)
    · exact .inr ⟨j, hj, e, upd_other _ _ _ _ e⟩
  have hne : ∀ j, j < t.n → j ≠ i → Sep (X i) (X j) := fun j hj hji => by
    have := k.ow.sep
    rw [List.pairwise_iff_getElem] at this
    rcases Nat.lt_or_gt_of_ne hji with h | h
    · have := this j i (by rw [lst_len]; exact hj) (by rw [lst_len]; exact hi) h
      simp only [lst, List.getElem_map, List.getElem_range] at this
      exact Sep.symm this
    · have := this i j (by rw [lst_len]; exact hi) (by rw [lst_len]; exact hj) h
      simp only [lst, List.getElem_map, List.getElem_range] at this
      exact this
  have hnew : ∀ j, j < t.n → j ≠ i → Sep e' (X j) := fun j hj hji b hb hb' => by
    rcases hg b hb with h | h
    · exact hne j hj hji b h hb'
    · have := (k.entry hj).lt hb'
      omega
  refine ⟨⟨⟨hN, hL, hf, k.nx.pq, k.nx.n64⟩, ?_, fun f hm => ?_, ⟨.inl k.ow.sp, .inl k.ow.sq, ?_, fun f hm b hb => ?_, ?_, k.ow.icc⟩⟩, fun b hb => ?_⟩
  · dsimp only
    rw [k.tE, mp_upd]
  · rcases hrest f hm with rfl | ⟨j, hj, hji, rfl⟩
    · exact hE
    · refine (k.entry hj).frame hSZ hc fun b hb hb' => ?_
      rcases hS b hb with h | rfl | rfl | h
      · exact hne j hj hji b h hb'
      · exact (k.esub hj _ hb').2.1 rfl
      · exact (k.esub hj _ hb').2.2 rfl
      · exact h.1 (k.esub hj _ hb').1
  · rintro b (hb | hb)
    · exact Nat.lt_of_lt_of_le (k.ow.slt b hb) hc.size
    · exact hE.lt hb
  · rcases hrest f hm with rfl | ⟨j, hj, hji, rfl⟩
    · refine ⟨.inr hb, ?_, ?_⟩
      · rintro rfl
        rcases hg _ hb with h | h
        · exact (k.esub hi _ h).2.1 rfl
        · have := k.ow.slt _ k.ow.sp; omega
      · rintro rfl
        rcases hg _ hb with h | h
        · exact (k.esub hi _ h).2.2 rfl
        · have := k.ow.slt _ k.ow.sq; omega
    · have := k.esub hj b hb
      exact ⟨.inl this.1, this.2⟩
  · have h1 := k.ow.sep
    rw [List.pairwise_iff_getElem] at h1 ⊢
    intro a b ha hb hab
    rw [lst_len] at ha hb
    simp only [lst, List.getElem_map, List.getElem_range]
    by_cases ea : a = i
    · subst ea
      rw [upd_same, upd_other _ _ _ _ (by omega)]
      exact hnew b hb (by omega)
    · rw [upd_other _ _ _ _ ea]
      by_cases eb : b = i
      · subst eb
        rw [upd_same]
        exact Sep.symm (hnew a ha ea)
      · rw [upd_other _ _ _ _ eb]
        have := h1 a b (by rw [lst_len]; exact ha) (by rw [lst_len]; exact hb) hab
        simpa only [lst, List.getElem_map, List.getElem_range] using this
  · rcases hb with hb | hb
    · exact .inl hb
    · rcases hg b hb with h | h
      · exact .inl (k.esub hi b h).1
      · exact .inr h
end Go.Proofs.Ytboeldlilkeihaa
namespace Go
open Go.RowKit Go.Bx Go.Proofs.Ytboeldlilkeihaa
theorem World.setCell_block {w : World} {b o : Nat} {cs : Array Value} {T : TypeId} {fr : Nat × Nat} (h : w.heap[b]? = some (.cells cs T fr)) (u : Value) : (w.setCell ⟨b, o, none⟩ u).heap[b]? = some (.cells (cs.setIfInBounds o u) T fr) := by
  simp only [World.setCell]
  rw [Array.getElem?_modify, if_pos rfl, h]
  simp
end Go
namespace Go.Proofs.Ytboeldlilkeihaa
open Go.RowKit Go.Bx
end Go.Proofs.Ytboeldlilkeihaa
namespace Go
open Go.RowKit Go.Bx Go.Proofs.Ytboeldlilkeihaa
theorem NodeAt.ne_of_cells {w : World} {p b : Nat} {N : Nd} {cs : Array Value} {T : TypeId} {fr : Nat × Nat} (h : NodeAt w p N) (k : w.heap[b]? = some (.cells cs T fr)) (hT : T ≠ 110) : p ≠ b := fun e => by
  subst e
  unfold NodeAt at h
  rw [h] at k
  simp only [Option.some.injEq, Obj.cells.injEq] at k
  exact hT k.2.1.symm
end Go
namespace Go.Proofs.Ytboeldlilkeihaa
open Go.RowKit Go.Bx
theorem frozen_of_cells {w : World} {b : Nat} {cs : Array Value} {T : TypeId} (h : w.heap[b]? = some (.cells cs T (0, 0))) (o : Nat) : w.frozen? ⟨b, o, none⟩ = false := by
  unfold World.frozen?; rw [h]; simp
/-- One more node into the list of those to be put in again. -/
theorem reAt_push {c : Int} {Z : Nat → Prop} {w6 w8 w9 : World} {h p q pi g cap rI base : Nat} {ic : Int} {nd : Nde (El h)} {X : Nat → R × An h} {s s3 : Nat → Prop} {v : Value} {L : List Nat} {N : Nd}
    (hO : OwnN c Z w6 h p q ic nd X s3) (hx8 : Mix.Ex w6 w8) (hgrow : w8.grownBy w9 v.ownBlock) (hat : v.ownBlock = some g ∨ g = w8.heap.size) (hown9 : w9.ownsRow base 92 1 (.slice (some ⟨g, 0, none⟩) (L.length + 1) cap) (L.length + 1) (L.flatMap ptrV ++ [.pointer (some ⟨pi, 0, none⟩)]))
    (hvI : w6.heap[rI]? = some (.cells #[v] 105 (0, 0))) (hRow : w6.Row base 92 1 ptrV v L) (hLe : ∀ p ∈ L, ∃ N : Nd, NodeAt w6 p N ∧ N.cnt = 0 ∧ (s p ∨ base ≤ p)) (hvs : ∀ k, v.ownBlock = some k → ¬ s3 k)
    (hpi : NodeAt w6 pi N) (hpc : N.cnt = 0) (hps : s pi ∨ base ≤ pi) (hrs : ¬ s3 rI) (hrZ : ¬ Z rI) (hrb : rI < base) (hZ : ∀ k, Z k → k < base) (hw6 : base ≤ w6.heap.size) (m : Nat) (hLL : L.length ≤ m) :
    ReAt (w9.setCell ⟨rI, 0, none⟩ (.slice (some ⟨g, 0, none⟩) (L.length + 1) cap)) base rI s s3 (m + 1) ∧ OwnN c Z (w9.setCell ⟨rI, 0, none⟩ (.slice (some ⟨g, 0, none⟩) (L.length + 1) cap)) h p q ic nd X s3 ∧ Chg (fun b => b = rI ∨ v.ownBlock = some b) w6 (w9.setCell ⟨rI, 0, none⟩ (.slice (some ⟨g, 0, none⟩) (L.length + 1) cap)) := by
  have hvb : ∀ k, v.ownBlock = some k → base ≤ k ∧ k < w6.heap.size := hRow.lt
  have hcg : Chg (fun b => v.ownBlock = some b) w8 w9 := ⟨hgrow.os, hgrow.tape, hgrow.output, hgrow.size, fun k hk hn => hgrow.block k hk (fun e => hn e.symm)⟩
  have hc9 : Chg (fun b => v.ownBlock = some b) w6 w9 := (Chg.ex hx8).trans hcg
  have hrv : v.ownBlock ≠ some rI := fun e => by have := (hvb rI e).1; omega
  have hvI9 : w9.heap[rI]? = some (.cells #[v] 105 (0, 0)) := by rw [hc9.block rI (by omega) hrv]; exact hvI
  have hcs : Chg (fun b => b = rI) w9 (w9.setCell ⟨rI, 0, none⟩ (.slice (some ⟨g, 0, none⟩) (L.length + 1) cap)) := (Chg.refl (fun b => b = rI) w9).setCell (x := ⟨rI, 0, none⟩) (.inl rfl) _
  have hc10 : Chg (fun b => b = rI ∨ v.ownBlock = some b) w6 (w9.setCell ⟨rI, 0, none⟩ (.slice (some ⟨g, 0, none⟩) (L.length + 1) cap)) := (hc9.mono fun b hb => .inr hb).trans (hcs.mono fun b hb => .inl hb)
  have hgb : base ≤ g := by
    rcases hat with e | e
    · exact (hvb g e).1
    · have := hx8.below.size; omega
  have hnode : ∀ (a : Nat) (M : Nd), NodeAt w6 a M → NodeAt (w9.setCell ⟨rI, 0, none⟩ (.slice (some ⟨g, 0, none⟩) (L.length + 1) cap)) a M := fun a M hM => hc10.node hM (by
    rintro (e | e)
    · exact hM.ne_of_cells hvI (by decide) e
    · rcases hRow.own.2 with ⟨e2, _⟩ | ⟨g0, cap0, cur, e2, _, h4, _⟩
      · subst e2; cases e
      · subst e2
        simp only [Value.ownBlock, Option.some.injEq] at e
        exact hM.ne_of_cells h4 (by decide) e.symm)
  refine ⟨⟨_, L ++ [pi], by simp; omega, World.setCell_block hvI9 _, ?_, ?_, ?_⟩, hO.frame (S := fun b => b = rI ∨ v.ownBlock = some b) ?_ hc10 ?_, hc10⟩
  · have hr9 : w9.Row base 92 1 ptrV (.slice (some ⟨g, 0, none⟩) (L.length + 1) cap) (L ++ [pi]) := ⟨fun _ => rfl, by rw [List.length_append, List.length_singleton, List.flatMap_append, List.flatMap_singleton]; exact hown9⟩
    exact hr9.of_block fun k hk => by
      simp only [Value.ownBlock, Option.some.injEq] at hk
      subst hk
      exact hcs.block _ (hr9.lt _ rfl).2 (by omega)
  · intro a ha
    rcases List.mem_append.1 ha with ha | ha
    · obtain ⟨M, m1, m2, m3⟩ := hLe a ha
      exact ⟨M, hnode a M m1, m2, m3⟩
    · simp only [List.mem_singleton] at ha
      subst ha
      exact ⟨N, hnode _ N hpi, hpc, hps⟩
  · intro k hk
    simp only [Value.ownBlock, Option.some.injEq] at hk
    subst hk
    rcases hat with e | e
    · exact hvs _ e
    · intro hs
      have := hO.ow.slt _ hs
      have := hx8.below.size
      omega
  · rintro b (rfl | e)
    · exact hrZ
    · exact fun hz => by have := hZ b hz; have := (hvb b e).1; omega
  · rintro b (rfl | e)
    · exact hrs
    · exact hvs b e
theorem reAt_pq {w w' : World} {base rI p q m : Nat} {s s3 : Nat → Prop} {N : Nd} {T : TypeId} {f : Nat → Value} (h : ReAt w base rI s s3 m) (hc : Chg (fun b => b = p ∨ b = q) w w') (hN : NodeAt w p N) (hn : N.cnt ≠ 0) (hL : ListAt w q T f) (hT : T ≠ 110)
    (hp : p < base) (hq : q < base) (hpr : rI ≠ p) (hqr : rI ≠ q) : ReAt w' base rI s s3 m := by
  obtain ⟨v', L', g0, g1, g2, g3, g4⟩ := h
  refine ⟨v', L', g0, ?_, g2.of_block fun k hk => hc.block k (g2.lt k hk).2 (by have := (g2.lt k hk).1; rintro (e | e) <;> omega), fun a ha => ?_, g4⟩
  · rw [hc.block rI (Array.getElem?_eq_some_iff.1 g1).1 (by rintro (e | e); exact hpr e; exact hqr e)]; exact g1
  · obtain ⟨M, m1, m2, m3⟩ := g3 a ha
    refine ⟨M, hc.node m1 ?_, m2, m3⟩
    rintro (e | e)
    · subst e
      have c1 := m1.cell2
      have c2 := hN.cell2
      rw [c1] at c2
      simp only [Option.some.injEq, Value.int.injEq, true_and] at c2
      exact hn (by rw [← c2]; exact m2)
    · subst e
      exact m1.ne_of_cells hL hT rfl
/-- The entries from one on have been put in order to the right. -/
theorem stage_right {c : Int} {Z : Nat → Prop} {w w' : World} {h p q f i : Nat} {ic : Int} {t : Nde (El h)} {X : Nat → R × An h} {s : Nat → Prop} (k : OwnN c Z w h p q ic t X s) (hsZ : ∀ b, s b → ¬ Z b) (hc : Chg (fun b => b = p ∨ b = q) w w')
    (hN : NodeAt w' p ⟨ic, leafB h, t.n, q, fun j => (ordR (mp An.v X) t.n f i j).1⟩) (hL : ListAt w' q (elT (leafB h)) (fE (ordR (mp An.v X) t.n f i))) (hf : Fit (leafB h) (fE (ordR (mp An.v X) t.n f i))) :
    ∃ Y, OwnN c Z w' h p q ic ⟨t.n, ordR t.E t.n f i⟩ Y s ∧ Chg s w w' := by
  rw [mp_ordR] at hN hL hf
  obtain ⟨k1, k2⟩ := k.perm (Y := ordR X t.n f i) hsZ hc hN hL hf ((ordR_perm t.n f i _).map _)
  have e : mp An.t (ordR X t.n f i) = ordR t.E t.n f i := by rw [← mp_ordR, ← k.tE]
  rw [e] at k1
  exact ⟨_, k1, k2⟩
theorem setRect_putE (w : World) {p b o : Nat} {N : Nd} {T : TypeId} {E : Ent} (r : R) (h1 : b ≠ p) (h2 : b ≠ N.q) : setRect (w.putE p N T E) b o r = (setRect w b o r).putE p N T E := by
  unfold setRect World.putE
  rw [World.setCell_putL_other _ _ _ _ _ _ _ _ h2, World.setCell_putN_other _ _ _ _ _ _ _ h1, World.setCell_putL_other _ _ _ _ _ _ _ _ h2, World.setCell_putN_other _ _ _ _ _ _ _ h1, World.setCell_putL_other _ _ _ _ _ _ _ _ h2, World.setCell_putN_other _ _ _ _ _ _ _ h1, World.setCell_putL_other _ _ _ _ _ _ _ _ h2, World.setCell_putN_other _ _ _ _ _ _ _ h1]
/-- Behind the call at the i-th child: its box is r', the child t'. -/
theorem stage_del {c : Int} {Z : Nat → Prop} {W w2 : World} {h p q pi qi m i rI : Nat} {ic ici : Int} {nd : Nde (El (h + 1))} {t' : Nde (El h)} {X : Nat → R × An (h + 1)} {Xc : Nat → R × An h} {s sc : Nat → Prop} {r' : R} (hO : OwnN c Z W (h + 1) p q ic nd X s) (hsZ : ∀ b, s b → ¬ Z b) (hi : i < nd.n) (hv : (X i).2.v = .pointer (some ⟨pi, 0, none⟩))
    (hrI : ¬ s rI) (hrZ : ¬ Z rI) (hOc : OwnN c Z w2 h pi qi ici t' Xc sc) (hg : Grew (W.drewN m) (X i).2.s sc) (hc : Chg (fun b => (X i).2.s b ∨ b = rI) (W.drewN m) w2) :
    ∃ (X3 : Nat → R × An (h + 1)) (s3 : Nat → Prop), X3 = Bx.upd X i (r', ⟨.pointer (some ⟨pi, 0, none⟩), t', sc⟩) ∧ OwnN c Z (setRect w2 p (3 + i * 4) r') (h + 1) p q ic ⟨nd.n, Bx.upd nd.E i (r', t')⟩ X3 s3 ∧ Grew W s s3 ∧ Chg (fun b => s b ∨ b = rI) W (setRect w2 p (3 + i * 4) r') ∧
      OwnN c Z (setRect w2 p (3 + i * 4) r') h pi qi ici t' Xc sc ∧ Chg (fun b => b = p) w2 (setRect w2 p (3 + i * 4) r') ∧ (∀ b, s3 b → s b ∨ sc b) := by
  have hc0 : Chg (fun b => (X i).2.s b ∨ b = rI) W w2 := ((Chg.ex ((Mix.Ex.refl W).drewN m))).trans hc
  have hsub := hO.esub hi
  have h64 := hO.nx.n64
  have hpr : p ≠ rI := fun h => hrI (h ▸ hO.ow.sp)
  have hqr : q ≠ rI := fun h => hrI (h ▸ hO.ow.sq)
  have hN := hc0.node hO.nx.nd (fun h => by rcases h with h | h; exact (hsub _ h).2.1 rfl; exact hpr h)
  have hL := hc0.list hO.nx.ls (fun h => by rcases h with h | h; exact (hsub _ h).2.2 rfl; exact hqr h)
  have hcp : Chg (fun b => b = p) w2 (setRect w2 p (3 + i * 4) r') := (Chg.refl (fun b => b = p) w2).setR (.inl rfl) r'
  have hc1 : Chg (fun b => (X i).2.s b ∨ b = rI ∨ b = p) W (setRect w2 p (3 + i * 4) r') := (hc0.mono (fun b hb => by rcases hb with h | h; exact .inl h; exact .inr (.inl h))).trans (hcp.mono fun b hb => .inr (.inr hb))
  have hpc : ¬ sc p := fun h => by
    rcases hg _ h with h | h
    · exact (hsub _ h).2.1 rfl
    · have := hO.ow.slt _ hO.ow.sp
      have h : W.heap.size ≤ p := h
      omega
  have hOc' := hOc.frame (S := fun b => b = p) (fun b hb => hb ▸ hsZ _ hO.ow.sp) hcp (fun b hb => hb ▸ hpc)
  have hN' : NodeAt (setRect w2 p (3 + i * 4) r') p ⟨ic, leafB (h + 1), nd.n, q, fun j => (Bx.upd X i (r', (⟨.pointer (some ⟨pi, 0, none⟩), t', sc⟩ : An (h + 1))) j).1⟩ := by
    rw [fst_upd, setRect_node hN (by omega)]
    exact NodeAt.put _ hN.lt
  have hL' : ListAt (setRect w2 p (3 + i * 4) r') q (elT (leafB (h + 1))) (fE (mp An.v (Bx.upd X i (r', (⟨.pointer (some ⟨pi, 0, none⟩), t', sc⟩ : An (h + 1)))))) := by
    rw [fE_mp_upd]
    dsimp only
    have e1 : Bx.upd (fE (mp An.v X)) i (.pointer (some ⟨pi, 0, none⟩)) = fE (mp An.v X) := by rw [← hv]; exact upd_self (fE (mp An.v X)) i
    rw [e1]
    exact hcp.list hL (fun h => hO.nx.pq h.symm)
  have hf' : Fit (leafB (h + 1)) (fE (mp An.v (Bx.upd X i (r', (⟨.pointer (some ⟨pi, 0, none⟩), t', sc⟩ : An (h + 1)))))) := by
    rw [fE_mp_upd]
    dsimp only
    have e1 : Bx.upd (fE (mp An.v X)) i (.pointer (some ⟨pi, 0, none⟩)) = fE (mp An.v X) := by rw [← hv]; exact upd_self (fE (mp An.v X)) i
    rw [e1]; exact hO.nx.fit
  have hS' : ∀ b, ((X i).2.s b ∨ b = rI ∨ b = p) → (X i).2.s b ∨ b = p ∨ b = q ∨ (¬ s b ∧ ¬ Z b) := fun b hb => by
    rcases hb with h | h | h
    · exact .inl h
    · subst h; exact .inr (.inr (.inr ⟨hrI, hrZ⟩))
    · exact .inr (.inl h)
  have hg' : Grew W (X i).2.s sc := hg
  have hch : Chg (fun b => s b ∨ b = rI) W (setRect w2 p (3 + i * 4) r') := hc1.mono fun b hb => by
    rcases hb with h | h | h
    · exact .inl (hsub _ h).1
    · exact .inr h
    · subst h; exact .inl hO.ow.sp
  have hEl : ElAt c Z (setRect w2 p (3 + i * 4) r') (h + 1) (.pointer (some ⟨pi, 0, none⟩)) t' sc := hOc'.toEl
  generalize setRect w2 p (3 + i * 4) r' = w5 at *
  obtain ⟨e', he⟩ : ∃ e' : R × An (h + 1), e' = (r', ⟨.pointer (some ⟨pi, 0, none⟩), t', sc⟩) := ⟨_, rfl⟩
  rw [← he] at hN' hL' hf'
  have e1 : e'.1 = r' := by rw [he]
  have e2 : e'.2.t = t' := by rw [he]
  have e3 : e'.2.s = sc := by rw [he]
  have e4 : e'.2.v = .pointer (some ⟨pi, 0, none⟩) := by rw [he]
  obtain ⟨k1, k2⟩ := hO.put_child2 (e' := e') hi hsZ hc1 hS' hN' hL' hf' (by rw [e2, e3, e4]; exact hEl) (by rw [e3]; exact hg')
  rw [e1, e2] at k1
  exact ⟨_, _, by rw [he], k1, k2, hch, hOc', hcp, fun b hb => by rw [← e3]; exact hb⟩
end Go.Proofs.Ytboeldlilkeihaa
