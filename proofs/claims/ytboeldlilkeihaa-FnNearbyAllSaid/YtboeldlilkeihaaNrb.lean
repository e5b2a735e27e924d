/- Distances of boxes, and the law of what is told by distance. No program in sight. -/
import Derived.Test.YtboeldlilkeihaaPln
namespace Go.Bx
theorem gap_comm (a b c d : Int) : R.gap a b c d = R.gap c d a b := by unfold R.gap; omega
theorem boxDist_comm (r s : R) : r.boxDist s = s.boxDist r := by unfold R.boxDist; rw [gap_comm r.x0, gap_comm r.y0]
theorem gap_nn (a b c d : Int) : 0 ≤ R.gap a b c d := by unfold R.gap; omega
theorem sq_mono {a b : Int} (h0 : 0 ≤ a) (h : a ≤ b) : a * a ≤ b * b := Int.mul_le_mul h h h0 (by omega)
theorem boxDist_nn (r s : R) : 0 ≤ r.boxDist s := by
  unfold R.boxDist
  have h1 := Int.mul_nonneg (gap_nn r.x0 r.x1 s.x0 s.x1) (gap_nn r.x0 r.x1 s.x0 s.x1)
  have h2 := Int.mul_nonneg (gap_nn r.y0 r.y1 s.y0 s.y1) (gap_nn r.y0 r.y1 s.y0 s.y1)
  omega
theorem gap_lt {a b c d : Int} (ha : -32768 ≤ a ∧ a ≤ 32767) (hb : -32768 ≤ b ∧ b ≤ 32767) (hc : -32768 ≤ c ∧ c ≤ 32767) (hd : -32768 ≤ d ∧ d ≤ 32767) : R.gap a b c d ≤ 65535 := by unfold R.gap; omega
theorem boxDist_lt {r s : R} (hr : r.small) (hs : s.small) : r.boxDist s < 9007199254740992 := by
  unfold R.boxDist
  obtain ⟨r0, r1, r2, r3⟩ := hr
  obtain ⟨s0, s1, s2, s3⟩ := hs
  have h1 := sq_mono (gap_nn r.x0 r.x1 s.x0 s.x1) (gap_lt r0 r2 s0 s2)
  have h2 := sq_mono (gap_nn r.y0 r.y1 s.y0 s.y1) (gap_lt r1 r3 s1 s3)
  omega
theorem boxDist_mono (b : R) {q e : R} (h : q.x0 ≤ e.x0 ∧ q.y0 ≤ e.y0 ∧ e.x1 ≤ q.x1 ∧ e.y1 ≤ q.y1) : b.boxDist q ≤ b.boxDist e := by
  unfold R.boxDist
  have g1 : R.gap b.x0 b.x1 q.x0 q.x1 ≤ R.gap b.x0 b.x1 e.x0 e.x1 := by unfold R.gap; omega
  have g2 : R.gap b.y0 b.y1 q.y0 q.y1 ≤ R.gap b.y0 b.y1 e.y0 e.y1 := by unfold R.gap; omega
  have h1 := sq_mono (gap_nn b.x0 b.x1 q.x0 q.x1) g1
  have h2 := sq_mono (gap_nn b.y0 b.y1 q.y0 q.y1) g2
  omega
/-- The distance of a box from b. -/
def dst (b r : R) : Nat := (b.boxDist r).toNat
theorem dst_int (b r : R) : ((dst b r : Nat) : Int) = b.boxDist r := Int.toNat_of_nonneg (boxDist_nn b r)
theorem dst_lt {b r : R} (hb : b.small) (hr : r.small) : dst b r < 2 ^ 53 := by
  have := dst_int b r
  have := boxDist_lt hb hr
  omega
theorem dst_mono (b : R) {q e : R} (h : q.x0 ≤ e.x0 ∧ q.y0 ≤ e.y0 ∧ e.x1 ≤ q.x1 ∧ e.y1 ≤ q.y1) : dst b q ≤ dst b e := by
  have := boxDist_mono b h
  have := dst_int b q
  have := dst_int b e
  omega
/-- The items that are told, each with its distance, and those that are left, of all. -/
structure Near (D : R → Nat) (O : List ((R × Int) × Nat)) (rest L : List (R × Int)) : Prop where
  perm : (O.map (·.1) ++ rest).Perm L
  asc : (O.map (·.2)).Pairwise (· ≤ ·)
  dist : ∀ o ∈ O, o.2 = D o.1.1
  least : ∀ o ∈ O, ∀ x ∈ rest, o.2 ≤ D x.1
theorem asc_eq : ∀ {A B : List Nat}, A.Pairwise (· ≤ ·) → B.Pairwise (· ≤ ·) → A.Perm B → A = B
  | [], B, _, _, h => (List.Perm.nil_eq h)
  | a :: A, [], _, _, h => absurd h.length_eq (by simp)
  | a :: A, b :: B, hA, hB, h => by
    have h1 : b ∈ a :: A := h.mem_iff.2 (by simp)
    have h2 : a ∈ b :: B := h.mem_iff.1 (by simp)
    have hab : a = b := by
      have k1 : a ≤ b := by
        rcases List.mem_cons.1 h1 with e | e
        · omega
        · exact List.rel_of_pairwise_cons hA e
      have k2 : b ≤ a := by
        rcases List.mem_cons.1 h2 with e | e
        · omega
        · exact List.rel_of_pairwise_cons hB e
      omega
    subst hab
    rw [asc_eq hA.of_cons hB.of_cons ((List.perm_cons a).1 h)]
theorem insert_asc (a : Nat) : ∀ (L : List Nat), L.Pairwise (· ≤ ·) → ∃ M : List Nat, M.Perm (a :: L) ∧ M.Pairwise (· ≤ ·)
  | [], _ => ⟨[a], List.Perm.refl _, by simp⟩
  | b :: L, h => by
    by_cases hab : a ≤ b
    · refine ⟨a :: b :: L, List.Perm.refl _, List.pairwise_cons.2 ⟨fun c hc => ?_, h⟩⟩
      rcases List.mem_cons.1 hc with rfl | hc
      · exact hab
      · exact Nat.le_trans hab (List.rel_of_pairwise_cons h hc)
    · obtain ⟨M, hM, hs⟩ := insert_asc a L h.of_cons
      refine ⟨b :: M, (hM.cons b).trans (List.Perm.swap _ _ _), List.pairwise_cons.2 ⟨fun c hc => ?_, hs⟩⟩
      rcases List.mem_cons.1 (hM.mem_iff.1 hc) with rfl | hc
      · omega
      · exact List.rel_of_pairwise_cons h hc
theorem sort_asc : ∀ (L : List Nat), ∃ M : List Nat, M.Perm L ∧ M.Pairwise (· ≤ ·)
  | [] => ⟨[], List.Perm.refl _, by simp⟩
  | a :: L => by
    obtain ⟨M, hM, hs⟩ := sort_asc L
    obtain ⟨M', hM', hs'⟩ := insert_asc a M hs
    exact ⟨M', hM'.trans (hM.cons a), hs'⟩
/-- The distances told are the least ones, in order. -/
theorem Near.take {D : R → Nat} {O : List ((R × Int) × Nat)} {rest L : List (R × Int)} (h : Near D O rest L) {W : List Nat} (hW : W.Perm (L.map fun x => D x.1)) (hs : W.Pairwise (· ≤ ·)) : O.map (·.2) = W.take O.length := by
  obtain ⟨M, hM, hMs⟩ := sort_asc (rest.map fun x => D x.1)
  have h1 : (O.map (·.2) ++ M).Pairwise (· ≤ ·) := by
    refine List.pairwise_append.2 ⟨h.asc, hMs, fun a ha b hb => ?_⟩
    obtain ⟨o, ho, rfl⟩ := List.mem_map.1 ha
    obtain ⟨x, hx, rfl⟩ := List.mem_map.1 (hM.mem_iff.1 hb)
    exact h.least o ho x hx
  have h2 : O.map (·.2) = (O.map (·.1)).map fun x => D x.1 := by
    rw [List.map_map]
    exact List.map_congr_left fun o ho => h.dist o ho
  have h3 : (O.map (·.2) ++ M).Perm W := by
    refine (List.Perm.append (List.Perm.refl _) hM).trans ?_
    rw [h2, ← List.map_append]
    exact (h.perm.map _).trans hW.symm
  rw [← asc_eq h1 hs h3, List.take_left' (by simp)]
/-- An item more. -/
theorem Near.more {D : R → Nat} {O : List ((R × Int) × Nat)} {rest L : List (R × Int)} {x : R × Int} (h : Near D O (x :: rest) L) (hx : ∀ y ∈ rest, D x.1 ≤ D y.1) : Near D (O ++ [(x, D x.1)]) rest L := by
  refine ⟨?_, ?_, ?_, ?_⟩
  · have := h.perm
    simpa using this
  · rw [List.map_append]
    refine List.pairwise_append.2 ⟨h.asc, by simp, fun a ha b hb => ?_⟩
    obtain ⟨o, ho, rfl⟩ := List.mem_map.1 ha
    simp only [List.map_cons, List.map_nil, List.mem_singleton] at hb
    subst hb
    exact h.least o ho x (by simp)
  · intro o ho
    rcases List.mem_append.1 ho with ho | ho
    · exact h.dist o ho
    · simp only [List.mem_singleton] at ho; subst ho; rfl
  · intro o ho y hy
    rcases List.mem_append.1 ho with ho | ho
    · exact h.least o ho y (by simp [hy])
    · simp only [List.mem_singleton] at ho; subst ho; exact hx y hy
theorem Near.perm_rest {D : R → Nat} {O : List ((R × Int) × Nat)} {rest rest' L : List (R × Int)} (h : Near D O rest L) (hp : rest'.Perm rest) : Near D O rest' L :=
  ⟨(List.Perm.append_left _ hp).trans h.perm, h.asc, h.dist, fun o ho x hx => h.least o ho x (hp.mem_iff.1 hx)⟩
end Go.Bx
