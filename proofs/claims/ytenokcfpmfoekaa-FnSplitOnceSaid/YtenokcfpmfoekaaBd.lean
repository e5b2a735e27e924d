/- The least box around boxes, told by the list of the boxes; the number of the entry that is picked. No program in sight. -/
import Derived.Test.YtenokcfpmfoekaaPerm
set_option linter.unusedSimpArgs false
set_option linter.unusedVariables false
namespace Go
namespace Bx
/-- r is the least box around the boxes of L, of which there is one at least. -/
def Bd (r : R) (L : List R) : Prop :=
  (∀ s ∈ L, r.x0 ≤ s.x0 ∧ r.y0 ≤ s.y0 ∧ s.x1 ≤ r.x1 ∧ s.y1 ≤ r.y1) ∧ (∃ s ∈ L, s.x0 = r.x0) ∧ (∃ s ∈ L, s.y0 = r.y0) ∧ (∃ s ∈ L, s.x1 = r.x1) ∧ ∃ s ∈ L, s.y1 = r.y1
theorem R.ext' {r s : R} (h0 : r.x0 = s.x0) (h1 : r.y0 = s.y0) (h2 : r.x1 = s.x1) (h3 : r.y1 = s.y1) : r = s := by
  cases r; cases s; simp_all
namespace Bd
theorem one (r : R) : Bd r [r] := ⟨fun s hs => by simp at hs; subst hs; omega, ⟨r, by simp⟩, ⟨r, by simp⟩, ⟨r, by simp⟩, ⟨r, by simp⟩⟩
theorem congr {r : R} {L M : List R} (h : Bd r L) (hm : ∀ s, s ∈ M ↔ s ∈ L) : Bd r M := by
  obtain ⟨h0, ⟨a, ha, ha'⟩, ⟨b, hb, hb'⟩, ⟨c, hc, hc'⟩, d, hd, hd'⟩ := h
  exact ⟨fun s hs => h0 s ((hm s).1 hs), ⟨a, (hm a).2 ha, ha'⟩, ⟨b, (hm b).2 hb, hb'⟩, ⟨c, (hm c).2 hc, hc'⟩, d, (hm d).2 hd, hd'⟩
theorem perm {r : R} {L M : List R} (h : Bd r L) (hm : M.Perm L) : Bd r M := h.congr fun _ => hm.mem_iff
theorem uniq {r s : R} {L : List R} (h : Bd r L) (k : Bd s L) : r = s := by
  obtain ⟨h0, ⟨a, ha, ha'⟩, ⟨b, hb, hb'⟩, ⟨c, hc, hc'⟩, d, hd, hd'⟩ := h
  obtain ⟨k0, ⟨a2, ka, ka'⟩, ⟨b2, kb, kb'⟩, ⟨c2, kc, kc'⟩, d2, kd, kd'⟩ := k
  refine R.ext' ?_ ?_ ?_ ?_
  · have := h0 _ ka; have := k0 _ ha; omega
  · have := h0 _ kb; have := k0 _ hb; omega
  · have := h0 _ kc; have := k0 _ hc; omega
  · have := h0 _ kd; have := k0 _ hd; omega
theorem expand {r : R} {L : List R} (h : Bd r L) (s : R) : Bd (r.expand s) (s :: L) := by
  obtain ⟨h0, ⟨a, ha, ha'⟩, ⟨b, hb, hb'⟩, ⟨c, hc, hc'⟩, d, hd, hd'⟩ := h
  unfold R.expand
  refine ⟨fun t ht => ?_, ?_, ?_, ?_, ?_⟩
  · dsimp only
    rcases List.mem_cons.1 ht with rfl | ht
    · omega
    · have := h0 t ht; omega
  · by_cases e : r.x0 ≤ s.x0
    · exact ⟨a, List.mem_cons_of_mem _ ha, by dsimp only; omega⟩
    · exact ⟨s, List.mem_cons_self, by dsimp only; omega⟩
  · by_cases e : r.y0 ≤ s.y0
    · exact ⟨b, List.mem_cons_of_mem _ hb, by dsimp only; omega⟩
    · exact ⟨s, List.mem_cons_self, by dsimp only; omega⟩
  · by_cases e : s.x1 ≤ r.x1
    · exact ⟨c, List.mem_cons_of_mem _ hc, by dsimp only; omega⟩
    · exact ⟨s, List.mem_cons_self, by dsimp only; omega⟩
  · by_cases e : s.y1 ≤ r.y1
    · exact ⟨d, List.mem_cons_of_mem _ hd, by dsimp only; omega⟩
    · exact ⟨s, List.mem_cons_self, by dsimp only; omega⟩
theorem small {r : R} {L : List R} (h : Bd r L) (hs : ∀ s ∈ L, s.small) : r.small := by
  obtain ⟨h0, ⟨a, ha, ha'⟩, ⟨b, hb, hb'⟩, ⟨c, hc, hc'⟩, d, hd, hd'⟩ := h
  have h1 := hs _ ha
  have h2 := hs _ hb
  have h3 := hs _ hc
  have h4 := hs _ hd
  unfold R.small at *
  omega
theorem ok {r : R} {L : List R} (h : Bd r L) (hs : ∀ s ∈ L, s.ok) : r.ok := by
  obtain ⟨h0, ⟨a, ha, ha'⟩, _⟩ := h
  have h1 := hs _ ha
  have := h0 _ ha
  unfold R.ok at *
  omega
theorem ne {r : R} {L : List R} (h : Bd r L) : L ≠ [] := by
  obtain ⟨_, ⟨a, ha, _⟩, _⟩ := h
  intro e; rw [e] at ha; cases ha
/-- The box around boxes each of which is the box around a list. -/
theorem flat {α : Type} {r : R} {L : List α} {f : α → R} {g : α → List R} (h : Bd r (L.map f)) (hg : ∀ a ∈ L, Bd (f a) (g a)) : Bd r (L.flatMap g) := by
  obtain ⟨h0, ⟨a, ha, ha'⟩, ⟨b, hb, hb'⟩, ⟨c, hc, hc'⟩, d, hd, hd'⟩ := h
  obtain ⟨a, ka, rfl⟩ := List.mem_map.1 ha
  obtain ⟨b, kb, rfl⟩ := List.mem_map.1 hb
  obtain ⟨c, kc, rfl⟩ := List.mem_map.1 hc
  obtain ⟨d, kd, rfl⟩ := List.mem_map.1 hd
  refine ⟨fun s hs => ?_, ?_, ?_, ?_, ?_⟩
  · obtain ⟨x, hx, hs⟩ := List.mem_flatMap.1 hs
    have h1 := h0 _ (List.mem_map_of_mem hx)
    have h2 := (hg x hx).1 s hs
    omega
  · obtain ⟨_, ⟨s, hs, e⟩, _⟩ := hg a ka
    exact ⟨s, List.mem_flatMap.2 ⟨a, ka, hs⟩, by omega⟩
  · obtain ⟨_, _, ⟨s, hs, e⟩, _⟩ := hg b kb
    exact ⟨s, List.mem_flatMap.2 ⟨b, kb, hs⟩, by omega⟩
  · obtain ⟨_, _, _, ⟨s, hs, e⟩, _⟩ := hg c kc
    exact ⟨s, List.mem_flatMap.2 ⟨c, kc, hs⟩, by omega⟩
  · obtain ⟨_, _, _, _, s, hs, e⟩ := hg d kd
    exact ⟨s, List.mem_flatMap.2 ⟨d, kd, hs⟩, by omega⟩
/-- A box is contained exactly if all are. -/
theorem le {r s : R} {L : List R} (h : Bd r L) (hs : s ∈ L) : r.contains s = true := by
  have := h.1 s hs
  simp only [R.contains, Bool.and_eq_true, Bool.not_eq_true', Bool.or_eq_false_iff, decide_eq_false_iff_not]
  omega
end Bd
theorem contains_iff (r s : R) : r.contains s = true ↔ r.x0 ≤ s.x0 ∧ r.y0 ≤ s.y0 ∧ s.x1 ≤ r.x1 ∧ s.y1 ≤ r.y1 := by
  simp only [R.contains, Bool.and_eq_true, Bool.not_eq_true', Bool.or_eq_false_iff, decide_eq_false_iff_not]
  omega
theorem contains_trans {r s t : R} (h : r.contains s = true) (k : s.contains t = true) : r.contains t = true := by
  rw [contains_iff] at *; omega
theorem expand_in {r s : R} (h : r.contains s = true) : r.expand s = r := by
  rw [contains_iff] at h
  unfold R.expand
  refine R.ext' ?_ ?_ ?_ ?_ <;> dsimp only <;> omega
theorem equals_iff (r s : R) : r.equals s = true ↔ r = s := by
  simp only [R.equals, Bool.not_eq_true', Bool.or_eq_false_iff, decide_eq_false_iff_not]
  constructor
  · intro h; refine R.ext' ?_ ?_ ?_ ?_ <;> omega
  · rintro rfl; omega
theorem bndF_bd (rc : Nat → R) : ∀ n, Bd (bndF rc n) (lst (n + 1) rc)
  | 0 => by rw [lst_succ]; exact .one _
  | n + 1 => by
    rw [lst_succ]
    exact ((bndF_bd rc n).expand _).perm (List.perm_append_singleton _ _)
section
variable {α : Type}
theorem bnd_bd (t : Nde α) (h : 1 ≤ t.n) : Bd (bnd t) ((lst t.n t.E).map (·.1)) := by
  have := bndF_bd (fun i => (t.E i).1) (t.n - 1)
  rw [show t.n - 1 + 1 = t.n by omega] at this
  unfold lst at *
  rw [List.map_map]
  exact this
theorem choose_yes {rc : Nat → R} {s : R} {k : Nat} {j e a u v : Int} (hst : chooseSt rc s k = (j, e, a)) (hu : (rc k).unionedArea s = u) (hv : (rc k).area = v) (h : j = -1 ∨ u - v < e ∨ (¬ e < u - v) ∧ v < a) : chooseSt rc s (k + 1) = ((k : Int), u - v, v) := by
  rw [chooseSt, hst, hu, hv]; exact if_pos h
theorem choose_no {rc : Nat → R} {s : R} {k : Nat} {j e a u v : Int} (hst : chooseSt rc s k = (j, e, a)) (hu : (rc k).unionedArea s = u) (hv : (rc k).area = v) (h : ¬ (j = -1 ∨ u - v < e ∨ (¬ e < u - v) ∧ v < a)) : chooseSt rc s (k + 1) = (j, e, a) := by
  rw [chooseSt, hst, hu, hv]; exact if_neg h
theorem choose_spec (rc : Nat → R) (s : R) : ∀ k : Nat, ∃ i : Nat, i < k + 1 ∧ chooseSt rc s (k + 1) = ((i : Int), (rc i).unionedArea s - (rc i).area, (rc i).area) ∧ ∀ j, j < k + 1 → (rc i).unionedArea s - (rc i).area ≤ (rc j).unionedArea s - (rc j).area
  | 0 => ⟨0, by omega, by rw [chooseSt, chooseSt]; simp, fun j hj => by (obtain rfl : j = 0 := by omega); exact Int.le_refl _⟩
  | k + 1 => by
    obtain ⟨i, hi, hst, hall⟩ := choose_spec rc s k
    by_cases h : (i : Int) = -1 ∨ (rc (k + 1)).unionedArea s - (rc (k + 1)).area < (rc i).unionedArea s - (rc i).area ∨ (¬ (rc i).unionedArea s - (rc i).area < (rc (k + 1)).unionedArea s - (rc (k + 1)).area) ∧ (rc (k + 1)).area < (rc i).area
    · refine ⟨k + 1, by omega, choose_yes hst rfl rfl h, fun j hj => ?_⟩
      by_cases hjk : j = k + 1
      · subst hjk; exact Int.le_refl _
      · have := hall j (by omega)
        omega
    · refine ⟨i, by omega, choose_no hst rfl rfl h, fun j hj => ?_⟩
      by_cases hjk : j = k + 1
      · subst hjk; omega
      · exact hall j (by omega)
theorem quick_spec (E : Nat → R × α) (s : R) : ∀ k : Nat, (quickSt E s k).1 = -1 ∨ ∃ i : Nat, i < k ∧ (quickSt E s k).1 = i
  | 0 => .inl rfl
  | k + 1 => by
    rw [quickSt]
    split
    · exact .inr ⟨k, by omega, rfl⟩
    · rcases quick_spec E s k with h | ⟨i, hi, h⟩
      · exact .inl h
      · exact .inr ⟨i, by omega, h⟩
theorem pick_lt (E : Nat → R × α) (n : Nat) (s : R) (hn : 1 ≤ n) : pick E n s < n := by
  unfold pick
  rcases quick_spec E s n with h | ⟨i, hi, h⟩
  · rw [if_pos h]
    obtain ⟨j, hj, hst, _⟩ := choose_spec (fun i => (E i).1) s (n - 1)
    rw [show n - 1 + 1 = n by omega] at hj hst
    rw [hst]; simp; exact hj
  · rw [if_neg (by omega), h]; simp; exact hi
end
end Bx
end Go
