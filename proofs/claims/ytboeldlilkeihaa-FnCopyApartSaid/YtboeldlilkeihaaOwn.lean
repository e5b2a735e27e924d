/- Nodes of the tree own. -/
import Derived.Test.YtboeldlilkeihaaHeap
import Derived.Test.YtboeldlilkeihaaSplit
set_option linter.unusedSimpArgs false
set_option linter.unusedVariables false
/- A node of the tree's own behind a change of one of its children. No program's walk. -/
namespace Go.Proofs.Ytboeldlilkeihaa
open Go.RowKit Go.Bx
theorem mp_at {α β : Type} (f : α → β) (E : Nat → R × α) (i : Nat) : mp f E i = ((E i).1, f (E i).2) := rfl
/-- The own blocks of an entry that is on the list. -/
theorem OwnN.entry {c : Int} {Z : Nat → Prop} {w : World} {h p q : Nat} {ic : Int} {t : Nde (El h)} {X : Nat → R × An h} {s : Nat → Prop} (k : OwnN c Z w h p q ic t X s) {i : Nat} (hi : i < t.n) : ElAt c Z w h (X i).2.v (X i).2.t (X i).2.s := k.el _ (mem_lst.2 ⟨i, hi, rfl⟩)
theorem OwnN.esub {c : Int} {Z : Nat → Prop} {w : World} {h p q : Nat} {ic : Int} {t : Nde (El h)} {X : Nat → R × An h} {s : Nat → Prop} (k : OwnN c Z w h p q ic t X s) {i : Nat} (hi : i < t.n) : ∀ b, (X i).2.s b → s b ∧ b ≠ p ∧ b ≠ q := k.ow.sub _ (mem_lst.2 ⟨i, hi, rfl⟩)
theorem OwnN.et {c : Int} {Z : Nat → Prop} {w : World} {h p q : Nat} {ic : Int} {t : Nde (El h)} {X : Nat → R × An h} {s : Nat → Prop} (k : OwnN c Z w h p q ic t X s) (i : Nat) : t.E i = ((X i).1, (X i).2.t) := by rw [k.tE]; rfl
/-- Entries in another order, or fewer of them. -/
theorem pw_cons {h : Nat} {e : R × An h} {L : List (R × An h)} : (e :: L).Pairwise Sep ↔ (∀ f ∈ L, Sep e f) ∧ L.Pairwise Sep := List.pairwise_cons
/-- A child is another one now, or lies elsewhere. -/
theorem OwnN.put_child {c : Int} {Z : Nat → Prop} {w w' : World} {h p q : Nat} {ic : Int} {t : Nde (El h)} {X : Nat → R × An h} {s S : Nat → Prop} {i : Nat} {e' : R × An h} (k : OwnN c Z w h p q ic t X s) (hi : i < t.n) (hsZ : ∀ b, s b → ¬ Z b) (hc : Chg S w w')
    (hS : ∀ b, S b → (X i).2.s b ∨ b = p ∨ b = q) (hN : NodeAt w' p ⟨ic, leafB h, t.n, q, fun j => (Bx.upd X i e' j).1⟩) (hL : ListAt w' q (elT (leafB h)) (fE (mp An.v (Bx.upd X i e')))) (hf : Fit (leafB h) (fE (mp An.v (Bx.upd X i e'))))
    (hE : ElAt c Z w' h e'.2.v e'.2.t e'.2.s) (hg : Grew w (X i).2.s e'.2.s) :
    OwnN c Z w' h p q ic ⟨t.n, Bx.upd t.E i (e'.1, e'.2.t)⟩ (Bx.upd X i e') (fun b => s b ∨ e'.2.s b) ∧ Grew w s (fun b => s b ∨ e'.2.s b) ∧ Chg s w w' := by
  have hsp : ∀ b, S b → s b := fun b hb => by
    rcases hS b hb with h | rfl | rfl
    · exact (k.esub hi b h).1
    · exact k.ow.sp
    · exact k.ow.sq
  have hSZ : ∀ b, S b → ¬ Z b := fun b hb => hsZ b (hsp b hb)
  have hup := upd_perm X e' hi
  have hrest : ∀ f, f ∈ lst t.n (Bx.upd X i e') → f = e' ∨ ∃ j, j < t.n ∧ j ≠ i ∧ f = X j := fun f hm => by
    obtain ⟨j, hj, rfl⟩ := mem_lst.1 hm
    by_cases e : j = i
    · subst e; exact .inl (upd_same _ _ _)
    · exact .inr ⟨j, hj, e, upd_other _ _ _ _ e⟩
  have hne : ∀ j, j < t.n → j ≠ i → Sep (X i) (X j) := fun j hj hji => by
    have := k.ow.sep
    rw [List.pairwise_iff_getElem] at this
    rcases Nat.lt_or_gt_of_ne hji with h | h
    · have := this j i (by rw [lst_len]; exact hj) (by rw [lst_len]; exact hi) h
      simp only [lst, List.getElem_map, List.getElem_range] at this
      exact Sep.symm this
    · have := this i j (by rw [lst_len]; exact hi) (by rw [lst_len]; exact hj) h
      simp only [lst, List.getElem_map, List.getElem_range] at this
      exact this
  have hnew : ∀ j, j < t.n → j ≠ i → Sep e' (X j) := fun j hj hji b hb hb' => by
    rcases hg b hb with h | h
    · exact hne j hj hji b h hb'
    · have := (k.entry hj).lt hb'
      omega
  refine ⟨⟨⟨hN, hL, hf, k.nx.pq, k.nx.n64⟩, ?_, fun f hm => ?_, ⟨.inl k.ow.sp, .inl k.ow.sq, ?_, fun f hm b hb => ?_, ?_, k.ow.icc⟩⟩, fun b hb => ?_, hc.mono hsp⟩
  · dsimp only
    rw [k.tE, mp_upd]
  · rcases hrest f hm with rfl | ⟨j, hj, hji, rfl⟩
    · exact hE
    · refine (k.entry hj).frame hSZ hc fun b hb hb' => ?_
      rcases hS b hb with h | rfl | rfl
      · exact hne j hj hji b h hb'
      · exact (k.esub hj _ hb').2.1 rfl
      · exact (k.esub hj _ hb').2.2 rfl
  · rintro b (hb | hb)
    · exact Nat.lt_of_lt_of_le (k.ow.slt b hb) hc.size
    · exact hE.lt hb
  · rcases hrest f hm with rfl | ⟨j, hj, hji, rfl⟩
    · refine ⟨.inr hb, ?_, ?_⟩
      · rintro rfl
        rcases hg _ hb with h | h
        · exact (k.esub hi _ h).2.1 rfl
        · have := k.ow.slt _ k.ow.sp; omega
      · rintro rfl
        rcases hg _ hb with h | h
        · exact (k.esub hi _ h).2.2 rfl
        · have := k.ow.slt _ k.ow.sq; omega
    · have := k.esub hj b hb
      exact ⟨.inl this.1, this.2⟩
  · have h1 := k.ow.sep
    rw [List.pairwise_iff_getElem] at h1 ⊢
    intro a b ha hb hab
    rw [lst_len] at ha hb
    simp only [lst, List.getElem_map, List.getElem_range]
    by_cases ea : a = i
    · subst ea
      rw [upd_same, upd_other _ _ _ _ (by omega)]
      exact hnew b hb (by omega)
    · rw [upd_other _ _ _ _ ea]
      by_cases eb : b = i
      · subst eb
        rw [upd_same]
        exact Sep.symm (hnew a ha ea)
      · rw [upd_other _ _ _ _ eb]
        have := h1 a b (by rw [lst_len]; exact ha) (by rw [lst_len]; exact hb) hab
        simpa only [lst, List.getElem_map, List.getElem_range] using this
  · rcases hb with hb | hb
    · exact .inl hb
    · rcases hg b hb with h | h
      · exact .inl (k.esub hi b h).1
      · exact .inr h
/-- The entries in another order; the boxes of one of them may be another. -/
theorem OwnN.perm {c : Int} {Z : Nat → Prop} {w w' : World} {h p q : Nat} {ic : Int} {t : Nde (El h)} {X Y : Nat → R × An h} {s : Nat → Prop} (k : OwnN c Z w h p q ic t X s) (hsZ : ∀ b, s b → ¬ Z b) (hc : Chg (fun b => b = p ∨ b = q) w w')
    (hN : NodeAt w' p ⟨ic, leafB h, t.n, q, fun j => (Y j).1⟩) (hL : ListAt w' q (elT (leafB h)) (fE (mp An.v Y))) (hf : Fit (leafB h) (fE (mp An.v Y))) (hp : ((lst t.n Y).map (·.2)).Perm ((lst t.n X).map (·.2))) :
    OwnN c Z w' h p q ic ⟨t.n, mp An.t Y⟩ Y s ∧ Chg s w w' := by
  have hsp : ∀ b, (b = p ∨ b = q) → s b := fun b hb => by rcases hb with rfl | rfl; exact k.ow.sp; exact k.ow.sq
  have hmem : ∀ f, f ∈ lst t.n Y → ∃ e ∈ lst t.n X, e.2 = f.2 := fun f hm => by
    have := hp.mem_iff.1 (List.mem_map_of_mem (f := (·.2)) hm)
    obtain ⟨e, he, h⟩ := List.mem_map.1 this
    exact ⟨e, he, h⟩
  refine ⟨⟨⟨hN, hL, hf, k.nx.pq, k.nx.n64⟩, rfl, fun f hm => ?_, ⟨k.ow.sp, k.ow.sq, fun b hb => Nat.lt_of_lt_of_le (k.ow.slt b hb) hc.size, fun f hm b hb => ?_, ?_, k.ow.icc⟩⟩, hc.mono hsp⟩
  · obtain ⟨e, he, h⟩ := hmem f hm
    rw [← h]
    refine (k.el e he).frame (fun b hb => hsZ b (hsp b hb)) hc fun b hb hb' => ?_
    rcases hb with rfl | rfl
    · exact (k.ow.sub e he _ hb').2.1 rfl
    · exact (k.ow.sub e he _ hb').2.2 rfl
  · obtain ⟨e, he, h⟩ := hmem f hm
    rw [← h] at hb
    exact k.ow.sub e he b hb
  · have h1 := k.ow.sep
    have e1 : ∀ L : List (R × An h), L.Pairwise Sep ↔ (L.map (·.2)).Pairwise (fun a b => ∀ k, a.s k → ¬ b.s k) := fun L => by rw [List.pairwise_map]; rfl
    rw [e1] at h1 ⊢
    exact (hp.pairwise_iff (fun {x y} k i h1 h2 => k i h2 h1)).2 h1
end Go.Proofs.Ytboeldlilkeihaa
/- A node of the tree's own that was split; its parent behind that. No program's walk. -/
namespace Go.Proofs.Ytboeldlilkeihaa
open Go.RowKit Go.Bx
theorem lst_rest {α : Type} {n i : Nat} (E : Nat → α) (h : i < n) : ∃ rest, (lst n E).Perm (E i :: rest) := ⟨_, by rw [lst_at E h]; exact List.perm_middle⟩
/-- A child was split in two. -/
theorem OwnN.split_child {c : Int} {Z : Nat → Prop} {w w' : World} {h p q : Nat} {ic : Int} {t : Nde (El h)} {X Y : Nat → R × An h} {s S : Nat → Prop} {i n' : Nat} {l r : R × An h} (k : OwnN c Z w h p q ic t X s) (hi : i < t.n) (hsZ : ∀ b, s b → ¬ Z b) (hc : Chg S w w')
    (hS : ∀ b, S b → (X i).2.s b ∨ b = p ∨ b = q) (hperm : (X i :: lst n' Y).Perm (l :: r :: lst t.n X)) (hN : NodeAt w' p ⟨ic, leafB h, n', q, fun j => (Y j).1⟩) (hL : ListAt w' q (elT (leafB h)) (fE (mp An.v Y))) (hf : Fit (leafB h) (fE (mp An.v Y))) (hn' : n' ≤ 64)
    (hEl : ElAt c Z w' h l.2.v l.2.t l.2.s) (hEr : ElAt c Z w' h r.2.v r.2.t r.2.s) (hlr : Sep l r) (hgl : Grew w (X i).2.s l.2.s) (hgr : Grew w (X i).2.s r.2.s) :
    OwnN c Z w' h p q ic ⟨n', mp An.t Y⟩ Y (fun b => s b ∨ l.2.s b ∨ r.2.s b) ∧ Grew w s (fun b => s b ∨ l.2.s b ∨ r.2.s b) ∧ Chg s w w' := by
  have hsp : ∀ b, S b → s b := fun b hb => by
    rcases hS b hb with h | rfl | rfl
    · exact (k.esub hi b h).1
    · exact k.ow.sp
    · exact k.ow.sq
  have hSZ : ∀ b, S b → ¬ Z b := fun b hb => hsZ b (hsp b hb)
  obtain ⟨rest, hrest⟩ := lst_rest X hi
  have hlist : (lst n' Y).Perm (l :: r :: rest) := by
    have h1 : (X i :: lst n' Y).Perm (X i :: l :: r :: rest) := hperm.trans (((hrest.cons r).cons l).trans (((List.Perm.swap _ _ _).cons l).trans (List.Perm.swap _ _ _)))
    exact h1.cons_inv
  have hmem : ∀ f, f ∈ rest → f ∈ lst t.n X := fun f hm => hrest.mem_iff.2 (List.mem_cons_of_mem _ hm)
  have hpw := (pw_perm hrest).1 k.ow.sep
  rw [pw_cons] at hpw
  obtain ⟨hpi, hpr⟩ := hpw
  have hnew : ∀ e : R × An h, Grew w (X i).2.s e.2.s → ∀ f ∈ rest, Sep e f := fun e hg f hm b hb hb' => by
    rcases hg b hb with h | h
    · exact hpi f hm b h hb'
    · have := (k.el f (hmem f hm)).lt hb'
      omega
  have hcase : ∀ f ∈ lst n' Y, f = l ∨ f = r ∨ f ∈ rest := fun f hm => by simpa using hlist.mem_iff.1 hm
  have hown : ∀ e : R × An h, Grew w (X i).2.s e.2.s → ∀ b, e.2.s b → b ≠ p ∧ b ≠ q := fun e hg b hb => by
    rcases hg b hb with h | h
    · exact (k.esub hi b h).2
    · have h1 := k.ow.slt _ k.ow.sp
      have h2 := k.ow.slt _ k.ow.sq
      exact ⟨by omega, by omega⟩
  refine ⟨⟨⟨hN, hL, hf, k.nx.pq, hn'⟩, rfl, fun f hm => ?_, ⟨.inl k.ow.sp, .inl k.ow.sq, ?_, fun f hm b hb => ?_, ?_, k.ow.icc⟩⟩, fun b hb => ?_, hc.mono hsp⟩
  · rcases hcase f hm with rfl | rfl | hm
    · exact hEl
    · exact hEr
    · refine (k.el f (hmem f hm)).frame hSZ hc fun b hb hb' => ?_
      rcases hS b hb with h | rfl | rfl
      · exact hpi f hm b h hb'
      · exact (k.ow.sub f (hmem f hm) _ hb').2.1 rfl
      · exact (k.ow.sub f (hmem f hm) _ hb').2.2 rfl
  · rintro b (hb | hb | hb)
    · exact Nat.lt_of_lt_of_le (k.ow.slt b hb) hc.size
    · exact hEl.lt hb
    · exact hEr.lt hb
  · rcases hcase f hm with rfl | rfl | hm
    · exact ⟨.inr (.inl hb), hown _ hgl b hb⟩
    · exact ⟨.inr (.inr hb), hown _ hgr b hb⟩
    · have := k.ow.sub f (hmem f hm) b hb
      exact ⟨.inl this.1, this.2⟩
  · rw [pw_perm hlist, pw_cons, pw_cons]
    refine ⟨fun f hm => ?_, hnew r hgr, hpr⟩
    rcases List.mem_cons.1 hm with rfl | hm
    · exact hlr
    · exact hnew l hgl f hm
  · rcases hb with hb | hb | hb
    · exact .inl hb
    · rcases hgl b hb with h | h
      · exact .inl (k.esub hi b h).1
      · exact .inr h
    · rcases hgr b hb with h | h
      · exact .inl (k.esub hi b h).1
      · exact .inr h
/-- What stands where nothing is. -/
def zAn (h : Nat) : An h := ⟨zE (leafB h), dfl h, fun _ => False⟩
/-- Behind a split: two nodes of the tree's own. -/
theorem OwnN.split {c : Int} {Z : Nat → Prop} {w w' : World} {h p q : Nat} {ic : Int} {t : Nde (El h)} {X : Nat → R × An h} {s : Nat → Prop} {r : R} {e : Ending} (k : OwnN c Z w h p q ic t X s) (h2 : 2 ≤ t.n) (hsZ : ∀ b, s b → ¬ Z b)
    (hS : SplitPost w p q c ic (leafB h) r t.n (mp An.v X) e w') :
    ∃ (p' q' : Nat) (A B : Nat → R × An h) (sl sr : Nat → Prop), e = .returned (.pointer (some ⟨p', 0, none⟩)) ∧ w.heap.size ≤ p' ∧ OwnN c Z w' h p q ic (cut (dfl h) r t).1 A sl ∧ OwnN c Z w' h p' q' c (cut (dfl h) r t).2 B sr ∧ (∀ b, sl b → s b) ∧ Grew w s sr ∧ (∀ b, sl b → ¬ sr b) ∧ Chg (fun b => b = p ∨ b = q) w w' := by
  obtain ⟨p', q', he, hp', hq', hpq', n1, l1, n2, l2, f1, f2, hc⟩ := hS
  obtain ⟨⟨a, A, b, B⟩, hs⟩ : ∃ y, splitF (zAn h) r t.n X = y := ⟨_, rfl⟩
  obtain ⟨g1, _, g3⟩ := splitF_spec (zAn h) r t.n X h2 a A b B hs
  have ev := mp_splitF (f := An.v) (zAn h) r t.n X
  have et := mp_splitF (f := An.t) (zAn h) r t.n X
  rw [hs] at ev et
  dsimp only at ev et
  have ez1 : An.v (zAn h) = zE (leafB h) := rfl
  have ez2 : An.t (zAn h) = dfl h := rfl
  rw [ez1] at ev
  rw [ez2, ← k.tE] at et
  rw [ev] at n1 l1 n2 l2 f1 f2
  dsimp only at n1 l1 n2 l2 f1 f2
  have hcut : cut (dfl h) r t = (⟨a, mp An.t A⟩, ⟨b, mp An.t B⟩) := by
    unfold cut; rw [et]
  have n64 := k.nx.n64
  have hsp : ∀ b, (b = p ∨ b = q) → s b := fun b hb => by rcases hb with rfl | rfl; exact k.ow.sp; exact k.ow.sq
  have hmA : ∀ f ∈ lst a A, f ∈ lst t.n X := fun f hm => g3.mem_iff.1 (List.mem_append_left _ hm)
  have hmB : ∀ f ∈ lst b B, f ∈ lst t.n X := fun f hm => g3.mem_iff.1 (List.mem_append_right _ hm)
  have hpw := (pw_perm g3).2 k.ow.sep
  rw [List.pairwise_append] at hpw
  obtain ⟨hpA, hpB, hAB⟩ := hpw
  have hel : ∀ f ∈ lst t.n X, ElAt c Z w' h f.2.v f.2.t f.2.s := fun f hm => (k.el f hm).frame (fun b hb => hsZ b (hsp b hb)) hc fun b hb hb' => by
    rcases hb with rfl | rfl
    · exact (k.ow.sub f hm _ hb').2.1 rfl
    · exact (k.ow.sub f hm _ hb').2.2 rfl
  have hlt : ∀ f ∈ lst t.n X, ∀ b, f.2.s b → b < w.heap.size := fun f hm b hb => (k.el f hm).lt hb
  refine ⟨p', q', A, B, fun x => x = p ∨ x = q ∨ ∃ f ∈ lst a A, f.2.s x, fun x => x = p' ∨ x = q' ∨ ∃ f ∈ lst b B, f.2.s x, he, hp', ?_, ?_, ?_, ?_, ?_, hc⟩
  · rw [hcut]
    refine ⟨⟨n1, l1, f1, k.nx.pq, by dsimp only; omega⟩, rfl, fun f hm => hel f (hmA f hm), ⟨.inl rfl, .inr (.inl rfl), ?_, fun f hm x hx => ⟨.inr (.inr ⟨f, hm, hx⟩), (k.ow.sub f (hmA f hm) x hx).2⟩, hpA, k.ow.icc⟩⟩
    rintro x (rfl | rfl | ⟨f, hm, hx⟩)
    · exact n1.lt
    · exact l1.lt
    · exact (hel f (hmA f hm)).lt hx
  · rw [hcut]
    refine ⟨⟨n2, l2, f2, hpq', by dsimp only; omega⟩, rfl, fun f hm => hel f (hmB f hm), ⟨.inl rfl, .inr (.inl rfl), ?_, fun f hm x hx => ?_, hpB, .inl rfl⟩⟩
    · rintro x (rfl | rfl | ⟨f, hm, hx⟩)
      · exact n2.lt
      · exact l2.lt
      · exact (hel f (hmB f hm)).lt hx
    · have := hlt f (hmB f hm) x hx
      exact ⟨.inr (.inr ⟨f, hm, hx⟩), by omega, by omega⟩
  · rintro x (rfl | rfl | ⟨f, hm, hx⟩)
    · exact k.ow.sp
    · exact k.ow.sq
    · exact (k.ow.sub f (hmA f hm) x hx).1
  · rintro x (rfl | rfl | ⟨f, hm, hx⟩)
    · exact .inr hp'
    · exact .inr hq'
    · exact .inl (k.ow.sub f (hmB f hm) x hx).1
  · have hpl := k.ow.slt _ k.ow.sp
    have hql := k.ow.slt _ k.ow.sq
    rintro x (rfl | rfl | ⟨f, hm, hx⟩) (h | h | ⟨g, hm', hx'⟩)
    · omega
    · omega
    · exact (k.ow.sub g (hmB g hm') _ hx').2.1 rfl
    · omega
    · omega
    · exact (k.ow.sub g (hmB g hm') _ hx').2.2 rfl
    · have := hlt f (hmA f hm) x hx; omega
    · have := hlt f (hmA f hm) x hx; omega
    · exact hAB f hm g hm' x hx hx'
end Go.Proofs.Ytboeldlilkeihaa
