/- What the operations on entries do to the list of the entries: they put it in another order. No program in sight. -/
import Derived.Test.YtenokcfpmfoekaaTr
import Derived.Test.YtenokcfpmfoekaaSortQ0
set_option linter.unusedSimpArgs false
set_option linter.unusedVariables false
namespace Go
namespace Bx
section
variable {α : Type}
/-- The first n entries as a list. -/
def lst (n : Nat) (E : Nat → α) : List α := (List.range n).map E
theorem lst_zero (E : Nat → α) : lst 0 E = [] := rfl
theorem lst_succ (n : Nat) (E : Nat → α) : lst (n + 1) E = lst n E ++ [E n] := by simp [lst, List.range_succ]
theorem lst_cons (n : Nat) (E : Nat → α) : lst (n + 1) E = E 0 :: lst n (fun k => E (k + 1)) := by
  simp only [lst, List.range_succ_eq_map, List.map_cons, List.map_map]; rfl
theorem lst_len (n : Nat) (E : Nat → α) : (lst n E).length = n := by simp [lst]
theorem lst_congr {n : Nat} {E F : Nat → α} (h : ∀ i, i < n → E i = F i) : lst n E = lst n F := by
  unfold lst; exact List.map_congr_left fun i hi => h i (List.mem_range.1 hi)
theorem lst_add (n m : Nat) (E : Nat → α) : lst (n + m) E = lst n E ++ lst m (fun k => E (n + k)) := by
  simp only [lst, List.range_add, List.map_append, List.map_map]; rfl
theorem mem_lst {n : Nat} {E : Nat → α} {e : α} : e ∈ lst n E ↔ ∃ i, i < n ∧ E i = e := by simp [lst]
theorem lst_get (n : Nat) (E : Nat → α) (i : Nat) : (lst n E)[i]? = if i < n then some (E i) else none := by
  simp only [lst, List.getElem?_map, List.getElem?_range]
  by_cases h : i < n
  · rw [if_pos h, List.getElem?_range h]; rfl
  · rw [if_neg h, List.getElem?_eq_none (by simp; omega)]; rfl
theorem lst_at {n i : Nat} (E : Nat → α) (h : i < n) : lst n E = lst i E ++ E i :: lst (n - i - 1) (fun k => E (i + 1 + k)) := by
  have e : n = i + ((n - i - 1) + 1) := by omega
  conv => lhs; rw [e, lst_add, lst_cons]
  refine congrArg _ (congrArg _ (lst_congr fun k _ => ?_))
  show E (i + (k + 1)) = E (i + 1 + k)
  congr 1; omega
theorem upd_lst {n i : Nat} (E : Nat → α) (e : α) (h : n ≤ i) : lst n (upd E i e) = lst n E := lst_congr fun k hk => upd_other _ _ _ _ (by omega)
theorem upd_perm {n i : Nat} (E : Nat → α) (e : α) (h : i < n) : (E i :: lst n (upd E i e)).Perm (e :: lst n E) := by
  have e1 := lst_at E h
  have e2 := lst_at (upd E i e) h
  rw [upd_same, upd_lst _ _ (Nat.le_refl _), lst_congr (F := fun k => E (i + 1 + k)) (fun k _ => upd_other _ _ _ _ (by omega))] at e2
  rw [e1, e2]
  refine ((List.perm_middle (a := e)).cons (E i)).trans ?_
  refine (List.Perm.swap _ _ _).trans ?_
  exact (List.perm_middle (a := E i)).symm.cons e
theorem swap_perm {n i j : Nat} (E : Nat → α) (hi : i < n) (hj : j < n) : (lst n (swapF E i j)).Perm (lst n E) := by
  rw [← upd_swap]
  by_cases hij : j = i
  · subst hij
    have : upd (upd E j (E j)) j (E j) = E := by funext k; simp only [upd]; split <;> simp_all
    rw [this]
  · have h1 := upd_perm E (E j) hi
    have h2 := upd_perm (upd E i (E j)) (E i) hj
    rw [upd_other _ _ _ _ hij] at h2
    exact (h2.trans h1).cons_inv
theorem shiftR_perm {n i : Nat} (E : Nat → α) (x : α) (h : i ≤ n) : (lst (n + 1) (upd (shiftR E i n) i x)).Perm (x :: lst n E) := by
  have e1 : lst n E = lst i E ++ lst (n - i) (fun k => E (i + k)) := by rw [← lst_add]; congr 1; omega
  have e2 := lst_at (n := n + 1) (i := i) (upd (shiftR E i n) i x) (by omega)
  rw [upd_same, upd_lst _ _ (Nat.le_refl _)] at e2
  have f1 : lst i (shiftR E i n) = lst i E := lst_congr fun k hk => if_neg (by omega)
  have f2 : lst (n + 1 - i - 1) (fun k => upd (shiftR E i n) i x (i + 1 + k)) = lst (n - i) (fun k => E (i + k)) := by
    rw [show n + 1 - i - 1 = n - i by omega]
    refine lst_congr fun k hk => ?_
    rw [upd_other _ _ _ _ (by omega)]
    unfold shiftR
    rw [if_pos (by omega)]
    congr 1; omega
  rw [e2, e1, f1, f2]
  exact List.perm_middle
theorem shiftL_perm {n i : Nat} (E : Nat → α) (h : i < n) : (E i :: lst (n - 1) (shiftL E i n)).Perm (lst n E) := by
  have e1 := lst_at E h
  have e2 : lst (n - 1) (shiftL E i n) = lst i E ++ lst (n - i - 1) (fun k => E (i + 1 + k)) := by
    have : n - 1 = i + (n - i - 1) := by omega
    conv => lhs; rw [this, lst_add]
    refine congr (congrArg _ (lst_congr fun k hk => if_neg (by omega))) (lst_congr fun k hk => ?_)
    unfold shiftL
    rw [if_pos (by omega)]
    congr 1; omega
  rw [e1, e2]
  exact List.perm_middle.symm
theorem IsP.perm {n : Nat} {E' E : Nat → α} (h : IsP 0 n E' E) : (lst n E').Perm (lst n E) := by
  obtain ⟨σ, τ, h1, h2, h3, h4⟩ := h
  have e : lst n E' = ((List.range n).map σ).map E := by
    rw [List.map_map]; exact List.map_congr_left fun i _ => h3 i
  rw [e]
  refine List.Perm.map E ?_
  have hin : ∀ i, i < n → σ i < n := fun i hi => by have := IsP.inside (s := 0) (m := n) h2 h4 (i := i) (by omega); omega
  have hnd : ((List.range n).map σ).Nodup := by
    unfold List.Nodup
    rw [List.pairwise_map]
    refine List.Pairwise.imp (fun {a b} hab e => hab ?_) List.nodup_range
    have := congrArg τ e
    rwa [h2, h2] at this
  rw [List.perm_ext_iff_of_nodup hnd List.nodup_range]
  intro a
  simp only [List.mem_map, List.mem_range]
  constructor
  · rintro ⟨i, hi, rfl⟩; exact hin i hi
  · intro ha
    refine ⟨τ a, ?_, h1 a⟩
    rcases Nat.lt_or_ge (τ a) n with h | h
    · exact h
    · have := h4 (τ a) (.inr (by omega))
      rw [h1] at this; omega
end
section
variable {α : Type}
theorem mvL_perm {n i : Nat} (E : Nat → R × α) (z : α) (h : i ≤ n) : (E i :: lst n (mvL E n i z)).Perm (lst (n + 1) E) := by
  unfold mvL
  rw [upd_lst _ _ (Nat.le_refl _), lst_succ]
  by_cases hi : i = n
  · subst hi
    rw [upd_lst _ _ (Nat.le_refl _)]
    exact (List.perm_append_singleton _ _).symm
  · refine (upd_perm E (E n) (by omega)).trans ?_
    exact (List.perm_append_singleton _ _).symm
theorem push_lst (E : Nat → R × α) (n : Nat) (e : R × α) : lst (n + 1) (upd E n e) = lst n E ++ [e] := by rw [lst_succ, upd_same, upd_lst _ _ (Nat.le_refl _)]
/-- Nothing is lost, nothing is made. -/
theorem spl_spec (z : α) (a : Nat) (r : R) : ∀ (f i n : Nat) (L : Nat → R × α) (m : Nat) (M : Nat → R × α) (n' : Nat) (L' : Nat → R × α) (m' : Nat) (M' : Nat → R × α), i + f = n →
    spl z a r f i n L m M = (n', L', m', M') → n' + m' = n + m ∧ (lst n' L' ++ lst m' M').Perm (lst n L ++ lst m M)
  | 0, i, n, L, m, M, n', L', m', M', _, h => by
    simp only [spl, Prod.mk.injEq] at h
    obtain ⟨rfl, rfl, rfl, rfl⟩ := h
    exact ⟨rfl, .refl _⟩
  | f + 1, i, n, L, m, M, n', L', m', M', hf, h => by
    rw [spl] at h
    split at h
    · exact spl_spec z a r f (i + 1) n L m M n' L' m' M' (by omega) h
    · obtain ⟨h1, h2⟩ := spl_spec z a r f i (n - 1) _ (m + 1) _ n' L' m' M' (by omega) h
      obtain ⟨k, rfl⟩ : ∃ k, n = k + 1 := ⟨n - 1, by omega⟩
      simp only [Nat.add_sub_cancel] at h1 h2
      refine ⟨by omega, h2.trans ?_⟩
      rw [push_lst]
      have h3 := mvL_perm (n := k) (i := i) L z (by omega)
      refine .trans ?_ (h3.append_right _)
      rw [← List.append_assoc]
      refine (List.perm_append_comm).trans ?_
      exact .refl _
theorem fillUp_spec (z : α) : ∀ (f n : Nat) (X : Nat → R × α) (m : Nat) (Y : Nat → R × α) (n' : Nat) (X' : Nat → R × α) (m' : Nat) (Y' : Nat → R × α), 2 ≤ n + m → 2 ≤ f + m →
    fillUp z f n X m Y = (n', X', m', Y') → n' + m' = n + m ∧ 2 ≤ m' ∧ (m < 2 → m' = 2) ∧ (2 ≤ m → m' = m) ∧ (lst n' X' ++ lst m' Y').Perm (lst n X ++ lst m Y)
  | 0, n, X, m, Y, n', X', m', Y', _, hm, h => by
    simp only [fillUp, Prod.mk.injEq] at h
    obtain ⟨rfl, rfl, rfl, rfl⟩ := h
    exact ⟨rfl, by omega, fun _ => by omega, fun _ => rfl, .refl _⟩
  | f + 1, n, X, m, Y, n', X', m', Y', hn, hm, h => by
    rw [fillUp] at h
    split at h
    · obtain ⟨k, rfl⟩ : ∃ k, n = k + 1 := ⟨n - 1, by omega⟩
      simp only [Nat.add_sub_cancel] at h
      obtain ⟨h1, h2, h2a, h2b, h3⟩ := fillUp_spec z f k _ (m + 1) _ n' X' m' Y' (by omega) (by omega) h
      refine ⟨by omega, h2, fun _ => by (rcases Nat.lt_or_ge (m + 1) 2 with q | q; exact h2a q; have := h2b q; omega), fun _ => by omega, h3.trans ?_⟩
      rw [push_lst]
      have h4 := mvL_perm (n := k) (i := k) X z (Nat.le_refl _)
      refine .trans ?_ (h4.append_right _)
      rw [← List.append_assoc]
      exact (List.perm_append_comm).trans (.refl _)
    · simp only [Prod.mk.injEq] at h
      obtain ⟨rfl, rfl, rfl, rfl⟩ := h
      exact ⟨rfl, by omega, fun _ => by omega, fun _ => rfl, .refl _⟩
theorem qs_perm (K : R × α → Int) (n : Nat) (E : Nat → R × α) : (lst n (qs K n E 0 n)).Perm (lst n E) := (qs_spec K n E 0 n (Nat.le_refl _)).1.perm
theorem srt_perm (n : Nat) (E : Nat → R × α) : (lst n (srt n E)).Perm (lst n E) := by
  unfold srt
  split
  · exact .refl _
  · exact qs_perm _ _ _
/-- A split: nothing is lost; of two entries at least none side has more than all; of four each side has two. -/
theorem splitF_spec (z : α) (r : R) (n : Nat) (E : Nat → R × α) (hn : 2 ≤ n) (a : Nat) (A : Nat → R × α) (b : Nat) (B : Nat → R × α) (h : splitF z r n E = (a, A, b, B)) :
    a + b = n ∧ (4 ≤ n → 2 ≤ a ∧ 2 ≤ b) ∧ (lst a A ++ lst b B).Perm (lst n E) := by
  unfold splitF at h
  obtain ⟨⟨n1, L1, m1, M1⟩, hs⟩ : ∃ y, spl z r.largestAxis r n 0 n E 0 (fun _ => (R0, z)) = y := ⟨_, rfl⟩
  obtain ⟨h1, h2⟩ := spl_spec z _ r n 0 n E 0 _ n1 L1 m1 M1 (by omega) hs
  rw [lst_zero, List.append_nil] at h2
  rw [hs] at h
  unfold evenUp at h
  simp only [Prod.mk.injEq] at h
  obtain ⟨ha, hA, hb, hB⟩ := h
  by_cases c1 : n1 < 2
  · rw [if_pos c1] at ha hA hb hB
    obtain ⟨⟨n2, L2, m2, M2⟩, ht⟩ : ∃ y, fillUp z 2 m1 (qs (keyK r.largestAxis true false) m1 M1 0 m1) n1 L1 = y := ⟨_, rfl⟩
    obtain ⟨k1, k2, k3, _, k4⟩ := fillUp_spec z 2 m1 _ n1 L1 n2 L2 m2 M2 (by omega) (by omega) ht
    rw [ht] at ha hA hb hB
    dsimp only at ha hA hb hB
    subst ha hA hb hB
    refine ⟨by omega, fun _ => by have := k3 c1; omega, ((srt_perm _ _).append (srt_perm _ _)).trans ?_⟩
    refine List.perm_append_comm.trans (k4.trans ?_)
    exact (List.perm_append_comm.trans ((qs_perm _ _ _).append_left _)).trans h2
  · rw [if_neg c1] at ha hA hb hB
    by_cases c2 : m1 < 2
    · rw [if_pos c2] at ha hA hb hB
      obtain ⟨⟨n2, L2, m2, M2⟩, ht⟩ : ∃ y, fillUp z 2 n1 (qs (keyK r.largestAxis true true) n1 L1 0 n1) m1 M1 = y := ⟨_, rfl⟩
      obtain ⟨k1, k2, k3, _, k4⟩ := fillUp_spec z 2 n1 _ m1 M1 n2 L2 m2 M2 (by omega) (by omega) ht
      rw [ht] at ha hA hb hB
      dsimp only at ha hA hb hB
      subst ha hA hb hB
      refine ⟨by omega, fun _ => by have := k3 c2; omega, ((srt_perm _ _).append (srt_perm _ _)).trans ?_⟩
      exact k4.trans (((qs_perm _ _ _).append_right _).trans h2)
    · rw [if_neg c2] at ha hA hb hB
      dsimp only at ha hA hb hB
      subst ha hA hb hB
      exact ⟨by omega, fun _ => by omega, ((srt_perm _ _).append (srt_perm _ _)).trans h2⟩
theorem ordR_perm (n : Nat) : ∀ (f i : Nat) (E : Nat → R × α), (lst n (ordR E n f i)).Perm (lst n E)
  | 0, i, E => .refl _
  | f + 1, i, E => by
    rw [ordR]
    split
    · rename_i h
      exact (ordR_perm n f (i + 1) _).trans (swap_perm E h.1 (by omega))
    · exact .refl _
theorem ordL_perm (n : Nat) : ∀ (i : Nat) (E : Nat → R × α), i < n → (lst n (ordL E i)).Perm (lst n E)
  | 0, E, _ => .refl _
  | i + 1, E, h => by
    rw [ordL]
    split
    · exact (ordL_perm n i _ (by omega)).trans (swap_perm E h (by omega))
    · exact .refl _
theorem rsr_le (E : Nat → R × α) (key : Int) (n : Nat) : ∀ (f i : Nat), i + f = n → rsr E key n f i ≤ n
  | 0, i, h => Nat.le_refl _
  | f + 1, i, h => by
    rw [rsr]
    split
    · exact rsr_le E key n f (i + 1) (by omega)
    · omega
theorem cleave_perm (E : Nat → R × α) (n i : Nat) (l r : R × α) (h : i < n) : (E i :: lst (n + 1) (cleave E n i l r)).Perm (l :: r :: lst n E) := by
  unfold cleave
  refine ((ordR_perm _ _ _ _).cons _).trans ?_
  have h1 : (lst (n + 1) (upd (shiftR (upd E i l) (i + 1) n) (i + 1) r)).Perm (r :: lst n (upd E i l)) := shiftR_perm _ _ (by omega)
  have h2 : (E i :: lst (n + 1) (upd (shiftR (upd E i l) (i + 1) n) (i + 1) r)).Perm (l :: r :: lst n E) :=
    (h1.cons _).trans ((List.Perm.swap _ _ _).trans (((upd_perm E l h).cons r).trans (List.Perm.swap _ _ _)))
  split
  · exact ((swap_perm _ (by omega) (by omega)).cons _).trans h2
  · exact h2
end
end Bx
end Go
