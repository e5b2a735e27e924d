/- The mirror of quicksort puts the entries in order and holds each of them once. No program in sight. -/
import Derived.Test.YtenokcfpmfoekaaOps
set_option linter.unusedSimpArgs false
set_option linter.unusedVariables false
namespace Go
namespace Bx
theorem part_le {α : Type} {K : α → Int} {s r : Nat} {E : Nat → α} : ∀ {i l : Nat} {F : Nat → α}, partSt K s r E i = (F, l) → l ≤ i
  | 0, l, F, h => by simp only [partSt, Prod.mk.injEq] at h; omega
  | i + 1, l, F, h => by
    obtain ⟨⟨G, k⟩, hg⟩ : ∃ y, partSt K s r E i = y := ⟨_, rfl⟩
    have := part_le hg
    by_cases hk : K (G (s + i)) < K (G (s + r))
    · rw [part_yes hg hk, Prod.mk.injEq] at h; omega
    · rw [part_no hg hk, Prod.mk.injEq] at h; omega
theorem part_le_r {α : Type} {K : α → Int} {s r : Nat} {E : Nat → α} {l : Nat} {F : Nat → α} (h : partSt K s r E (r + 1) = (F, l)) : l ≤ r := by
  obtain ⟨⟨G, k⟩, hg⟩ : ∃ y, partSt K s r E r = y := ⟨_, rfl⟩
  have := part_le hg
  rw [part_no hg (Int.lt_irrefl _), Prod.mk.injEq] at h
  omega
theorem qs_small {α : Type} (K : α → Int) (fu : Nat) (E : Nat → α) (s m : Nat) (h : m < 2) : qs K fu E s m = E := by
  cases fu with
  | zero => rfl
  | succ fu => unfold qs; rw [if_pos h]
theorem part_ind {α : Type} (P : (Nat → α) → Prop) (hP : ∀ E i j, P E → P (swapF E i j)) (K : α → Int) (s r : Nat) (E : Nat → α) (h : P E) : ∀ i, P (partSt K s r E i).1
  | 0 => h
  | i + 1 => by
    rw [partSt]
    split
    · exact hP _ _ _ (part_ind P hP K s r E h i)
    · exact part_ind P hP K s r E h i
theorem qs_ind {α : Type} (P : (Nat → α) → Prop) (hP : ∀ E i j, P E → P (swapF E i j)) (K : α → Int) : ∀ fu E s m, P E → P (qs K fu E s m)
  | 0, E, s, m, h => h
  | fu + 1, E, s, m, h => by
    rw [qs]
    split
    · exact h
    · exact qs_ind P hP K fu _ _ _ (qs_ind P hP K fu _ _ _ (hP _ _ _ (part_ind P hP K _ _ _ (hP _ _ _ h) _)))
theorem qs_step {α : Type} (K : α → Int) (fu : Nat) (E F : Nat → α) (s r l : Nat) (h : ¬ r + 1 < 2) (hp : partSt K s r (swapF E (s + (r + 1) / 2) (s + r)) (r + 1) = (F, l)) :
    qs K (fu + 1) E s (r + 1) = qs K fu (qs K fu (swapF F (s + l) (s + r)) s l) (s + l + 1) (r - l) := by
  rw [qs, if_neg h, show r + 1 - 1 = r from rfl, hp, show r + 1 - l - 1 = r - l by omega]
/-- E' is E with the entries s .. s+m-1 in another order. -/
def IsP {α : Type} (s m : Nat) (E' E : Nat → α) : Prop := ∃ σ τ : Nat → Nat, (∀ i, σ (τ i) = i) ∧ (∀ i, τ (σ i) = i) ∧ (∀ i, E' i = E (σ i)) ∧ ∀ i, (i < s ∨ s + m ≤ i) → σ i = i
section
variable {α : Type} {s m : Nat} {E E' E'' : Nat → α}
theorem IsP.refl (s m : Nat) (E : Nat → α) : IsP s m E E := ⟨id, id, fun _ => rfl, fun _ => rfl, fun _ => rfl, fun _ _ => rfl⟩
theorem IsP.trans (h : IsP s m E'' E') (k : IsP s m E' E) : IsP s m E'' E := by
  obtain ⟨σ, τ, h1, h2, h3, h4⟩ := h
  obtain ⟨σ', τ', k1, k2, k3, k4⟩ := k
  refine ⟨fun i => σ' (σ i), fun i => τ (τ' i), fun i => by simp only [h1, k1], fun i => by simp only [h2, k2], fun i => by rw [h3, k3], fun i hi => ?_⟩
  show σ' (σ i) = i
  rw [h4 i hi, k4 i hi]
theorem IsP.mono {s' m' : Nat} (h : IsP s m E' E) (h1 : s' ≤ s) (h2 : s + m ≤ s' + m') : IsP s' m' E' E := by
  obtain ⟨σ, τ, a1, a2, a3, a4⟩ := h
  exact ⟨σ, τ, a1, a2, a3, fun i hi => a4 i (by omega)⟩
theorem IsP.swap (E : Nat → α) {i j : Nat} (hi : s ≤ i ∧ i < s + m) (hj : s ≤ j ∧ j < s + m) : IsP s m (swapF E i j) E := by
  refine ⟨fun k => if k = j then i else if k = i then j else k, fun k => if k = j then i else if k = i then j else k, fun k => ?_, fun k => ?_, fun k => ?_, fun k hk => ?_⟩
  · dsimp only; repeat' split
    all_goals omega
  · dsimp only; repeat' split
    all_goals omega
  · simp only [swapF]; repeat' split
    all_goals rfl
  · dsimp only; rw [if_neg (by omega), if_neg (by omega)]
theorem IsP.out (h : IsP s m E' E) {i : Nat} (hi : i < s ∨ s + m ≤ i) : E' i = E i := by
  obtain ⟨σ, τ, _, _, h3, h4⟩ := h
  rw [h3, h4 i hi]
theorem IsP.inside {σ τ : Nat → Nat} (h2 : ∀ i, τ (σ i) = i) (h4 : ∀ i, (i < s ∨ s + m ≤ i) → σ i = i) {i : Nat} (h : s ≤ i ∧ i < s + m) : s ≤ σ i ∧ σ i < s + m := by
  rcases Nat.lt_or_ge (σ i) s with k | k
  · have := h4 (σ i) (.inl k)
    have e := h2 (σ i)
    rw [this, h2] at e
    omega
  · rcases Nat.lt_or_ge (σ i) (s + m) with k' | k'
    · exact ⟨k, k'⟩
    · have := h4 (σ i) (.inr k')
      have e := h2 (σ i)
      rw [this, h2] at e
      omega
theorem IsP.all (h : IsP s m E' E) (P : α → Prop) (hP : ∀ i, s ≤ i → i < s + m → P (E i)) : ∀ i, s ≤ i → i < s + m → P (E' i) := by
  obtain ⟨σ, τ, _, h2, h3, h4⟩ := h
  intro i h5 h6
  have := IsP.inside h2 h4 ⟨h5, h6⟩
  rw [h3]
  exact hP _ this.1 this.2
end
/-- What the parting does. -/
theorem part_spec {α : Type} (K : α → Int) (s r : Nat) (E : Nat → α) : ∀ i, i ≤ r + 1 → ∀ F l, partSt K s r E i = (F, l) →
    IsP s (r + 1) F E ∧ F (s + r) = E (s + r) ∧ l ≤ i ∧ (l ≤ r) ∧ (∀ k, k < l → K (F (s + k)) < K (E (s + r))) ∧ (∀ k, l ≤ k → k < i → K (E (s + r)) ≤ K (F (s + k)))
  | 0, _, F, l, h => by
    simp only [partSt, Prod.mk.injEq] at h
    obtain ⟨rfl, rfl⟩ := h
    exact ⟨IsP.refl _ _ _, rfl, Nat.le_refl _, by omega, fun k hk => by omega, fun k _ hk => by omega⟩
  | i + 1, hi, F, l, h => by
    obtain ⟨⟨G, q⟩, hg⟩ : ∃ y, partSt K s r E i = y := ⟨_, rfl⟩
    obtain ⟨h1, h2, h3, h3', h4, h5⟩ := part_spec K s r E i (by omega) G q hg
    by_cases hk : K (G (s + i)) < K (G (s + r))
    · rw [part_yes hg hk, Prod.mk.injEq] at h
      obtain ⟨rfl, rfl⟩ := h
      have hir : i ≠ r := by rintro rfl; exact absurd hk (Int.lt_irrefl _)
      refine ⟨(IsP.swap G (by omega) (by omega)).trans h1, ?_, by omega, by omega, fun k hk' => ?_, fun k hk1 hk2 => ?_⟩
      · rw [swapF, if_neg (by omega), if_neg (by omega)]; exact h2
      · by_cases e : k = q
        · subst e
          rw [swapF, if_pos rfl, ← h2]; exact hk
        · have : swapF G (s + i) (s + q) (s + k) = G (s + k) := by rw [swapF, if_neg (by omega), if_neg (by omega)]
          rw [this]; exact h4 k (by omega)
      · by_cases e : k = i
        · subst e
          have : swapF G (s + k) (s + q) (s + k) = G (s + q) := by
            rw [swapF]
            by_cases e2 : k = q
            · subst e2; omega
            · rw [if_neg (by omega), if_pos rfl]
          rw [this]; exact h5 q (Nat.le_refl _) (by omega)
        · have : swapF G (s + i) (s + q) (s + k) = G (s + k) := by rw [swapF, if_neg (by omega), if_neg (by omega)]
          rw [this]; exact h5 k (by omega) (by omega)
    · rw [part_no hg hk, Prod.mk.injEq] at h
      obtain ⟨rfl, rfl⟩ := h
      refine ⟨h1, h2, by omega, by omega, h4, fun k hk1 hk2 => ?_⟩
      by_cases e : k = i
      · subst e; rw [← h2]; omega
      · exact h5 k hk1 (by omega)
/-- Quicksort: the same entries, in order. -/
theorem qs_spec {α : Type} (K : α → Int) : ∀ (fu : Nat) (E : Nat → α) (s m : Nat), m ≤ fu → IsP s m (qs K fu E s m) E ∧ ∀ i j, s ≤ i → i ≤ j → j < s + m → K (qs K fu E s m i) ≤ K (qs K fu E s m j)
  | 0, E, s, m, h => by
    obtain rfl : m = 0 := by omega
    exact ⟨IsP.refl _ _ _, fun i j h1 h2 h3 => by omega⟩
  | fu + 1, E, s, m, h => by
    by_cases hm : m < 2
    · rw [qs_small _ _ _ _ _ hm]
      refine ⟨IsP.refl _ _ _, fun i j h1 h2 h3 => ?_⟩
      obtain rfl : i = j := by omega
      exact Int.le_refl _
    obtain ⟨r, rfl⟩ : ∃ r, m = r + 1 := ⟨m - 1, by omega⟩
    obtain ⟨⟨F, l⟩, hp⟩ : ∃ y, partSt K s r (swapF E (s + (r + 1) / 2) (s + r)) (r + 1) = y := ⟨_, rfl⟩
    obtain ⟨h1, h2, h3, h3', h4, h5⟩ := part_spec K s r _ (r + 1) (Nat.le_refl _) F l hp
    rw [qs_step K fu E F s r l hm hp]
    have p0 : IsP s (r + 1) (swapF E (s + (r + 1) / 2) (s + r)) E := IsP.swap E (by omega) (by omega)
    generalize swapF E (s + (r + 1) / 2) (s + r) = E1 at h1 h2 h4 h5 p0
    have p1 := h1.trans p0
    have p2 : IsP s (r + 1) (swapF F (s + l) (s + r)) F := IsP.swap F (by omega) (by omega)
    -- behind the last swap: less, the pivot, not less
    have q1 : ∀ i, s ≤ i → i < s + l → K (swapF F (s + l) (s + r) i) ≤ K (E1 (s + r)) := fun i a b => by
      have e : swapF F (s + l) (s + r) i = F i := by rw [swapF, if_neg (by omega), if_neg (by omega)]
      rw [e]
      have := h4 (i - s) (by omega)
      rw [show s + (i - s) = i by omega] at this
      omega
    have q2 : swapF F (s + l) (s + r) (s + l) = E1 (s + r) := by
      rw [swapF]
      by_cases e : l = r
      · subst e; rw [if_pos rfl]; exact h2
      · rw [if_neg (by omega), if_pos rfl]; exact h2
    have q3 : ∀ i, s + l + 1 ≤ i → i < s + l + 1 + (r - l) → K (E1 (s + r)) ≤ K (swapF F (s + l) (s + r) i) := fun i a b => by
      rw [swapF]
      by_cases e : i = s + r
      · rw [if_pos e]; exact h5 l (Nat.le_refl _) (by omega)
      · rw [if_neg e, if_neg (by omega)]
        have := h5 (i - s) (by omega) (by omega)
        rwa [show s + (i - s) = i by omega] at this
    generalize swapF F (s + l) (s + r) = F2 at p2 q1 q2 q3
    obtain ⟨u1, u2⟩ := qs_spec K fu F2 s l (by omega)
    have a1 := u1.all (fun x => K x ≤ K (E1 (s + r))) q1
    have a2 : qs K fu F2 s l (s + l) = E1 (s + r) := by rw [u1.out (.inr (Nat.le_refl _))]; exact q2
    have a3 : ∀ i, s + l + 1 ≤ i → i < s + l + 1 + (r - l) → K (E1 (s + r)) ≤ K (qs K fu F2 s l i) := fun i b c => by rw [u1.out (.inr (by omega))]; exact q3 i b c
    generalize qs K fu F2 s l = F3 at u1 u2 a1 a2 a3
    obtain ⟨v1, v2⟩ := qs_spec K fu F3 (s + l + 1) (r - l) (by omega)
    have b3 := v1.all (fun x => K (E1 (s + r)) ≤ K x) a3
    have bo : ∀ i, i < s + l + 1 → qs K fu F3 (s + l + 1) (r - l) i = F3 i := fun i hi => v1.out (.inl hi)
    generalize qs K fu F3 (s + l + 1) (r - l) = F4 at v1 v2 b3 bo
    refine ⟨(v1.mono (by omega) (by omega)).trans ((u1.mono (by omega) (by omega)).trans (p2.trans p1)), fun i j c1 c2 c3 => ?_⟩
    rcases Nat.lt_or_ge j (s + l) with hj | hj
    · rw [bo i (by omega), bo j (by omega)]; exact u2 i j c1 c2 hj
    · rcases Nat.lt_or_ge i (s + l + 1) with hi | hi
      · have ki : K (F4 i) ≤ K (E1 (s + r)) := by
          rw [bo i hi]
          rcases Nat.lt_or_ge i (s + l) with hi' | hi'
          · exact a1 i c1 hi'
          · obtain rfl : i = s + l := by omega
            rw [a2]; exact Int.le_refl _
        have kj : K (E1 (s + r)) ≤ K (F4 j) := by
          rcases Nat.lt_or_ge j (s + l + 1) with hj' | hj'
          · obtain rfl : j = s + l := by omega
            rw [bo _ (by omega), a2]; exact Int.le_refl _
          · exact b3 j hj' (by omega)
        omega
      · exact v2 i j hi c2 (by omega)
end Bx
end Go
