/- The operations on entries do not look at what an entry holds besides its box: they commute with a turn of that. No program in sight. -/
import Derived.Test.YtenokcfpmfoekaaTr
set_option linter.unusedSimpArgs false
set_option linter.unusedVariables false
namespace Go
namespace Bx
section
variable {α β : Type}
/-- What stands besides the boxes is turned by f. -/
def mp (f : α → β) (E : Nat → R × α) : Nat → R × β := fun i => ((E i).1, f (E i).2)
variable (f : α → β)
theorem mp_upd (E : Nat → R × α) (i : Nat) (e : R × α) : mp f (upd E i e) = upd (mp f E) i (e.1, f e.2) := by
  funext k; simp only [mp, upd]; split <;> rfl
theorem mp_swap (E : Nat → R × α) (i j : Nat) : mp f (swapF E i j) = swapF (mp f E) i j := by
  funext k; simp only [mp, swapF]; split <;> (try split) <;> rfl
theorem mp_shiftR (E : Nat → R × α) (i n : Nat) : mp f (shiftR E i n) = shiftR (mp f E) i n := by
  funext k; simp only [mp, shiftR]; split <;> rfl
theorem mp_shiftL (E : Nat → R × α) (i n : Nat) : mp f (shiftL E i n) = shiftL (mp f E) i n := by
  funext k; simp only [mp, shiftL]; split <;> rfl
theorem mp_const (r : R) (z : α) : mp f (fun _ => (r, z)) = fun _ => (r, f z) := rfl
theorem mp_mvL (E : Nat → R × α) (n i : Nat) (z : α) : mp f (mvL E n i z) = mvL (mp f E) n i (f z) := by
  unfold mvL; rw [mp_upd, mp_upd]; rfl
theorem mp_part (a : Nat) (rev mx : Bool) (s r : Nat) (E : Nat → R × α) : ∀ i, partSt (keyK a rev mx) s r (mp f E) i = (mp f (partSt (keyK a rev mx) s r E i).1, (partSt (keyK a rev mx) s r E i).2)
  | 0 => rfl
  | i + 1 => by
    rw [partSt, partSt, mp_part a rev mx s r E i]
    dsimp only
    have e : ∀ (F : Nat → R × α) k, keyK a rev mx (mp f F k) = keyK a rev mx (F k) := fun F k => rfl
    simp only [e]
    split
    · dsimp only; rw [mp_swap]
    · rfl
theorem mp_qs (a : Nat) (rev mx : Bool) : ∀ (fu : Nat) (E : Nat → R × α) (s m : Nat), qs (keyK a rev mx) fu (mp f E) s m = mp f (qs (keyK a rev mx) fu E s m)
  | 0, E, s, m => rfl
  | fu + 1, E, s, m => by
    rw [qs, qs]
    split
    · rfl
    · rw [← mp_swap, mp_part]
      dsimp only
      rw [← mp_swap, mp_qs a rev mx fu, mp_qs a rev mx fu]
theorem mp_spl (z : α) (a : Nat) (r : R) : ∀ (g i n : Nat) (L : Nat → R × α) (m : Nat) (M : Nat → R × α),
    spl (f z) a r g i n (mp f L) m (mp f M) = ((spl z a r g i n L m M).1, mp f (spl z a r g i n L m M).2.1, (spl z a r g i n L m M).2.2.1, mp f (spl z a r g i n L m M).2.2.2)
  | 0, i, n, L, m, M => rfl
  | g + 1, i, n, L, m, M => by
    rw [spl, spl]
    have e : (mp f L i).1 = (L i).1 := rfl
    rw [e]
    split
    · exact mp_spl z a r g (i + 1) n L m M
    · rw [← mp_mvL, show mp f L i = ((L i).1, f (L i).2) from rfl, ← mp_upd]
      exact mp_spl z a r g i (n - 1) _ (m + 1) _
theorem mp_fillUp (z : α) : ∀ (g n : Nat) (X : Nat → R × α) (m : Nat) (Y : Nat → R × α),
    fillUp (f z) g n (mp f X) m (mp f Y) = ((fillUp z g n X m Y).1, mp f (fillUp z g n X m Y).2.1, (fillUp z g n X m Y).2.2.1, mp f (fillUp z g n X m Y).2.2.2)
  | 0, n, X, m, Y => rfl
  | g + 1, n, X, m, Y => by
    rw [fillUp, fillUp]
    split
    · rw [← mp_mvL, show mp f X (n - 1) = ((X (n - 1)).1, f (X (n - 1)).2) from rfl, ← mp_upd]
      exact mp_fillUp z g (n - 1) _ (m + 1) _
    · rfl
theorem mp_inOrder (E : Nat → R × α) : ∀ k, inOrder (mp f E) k = inOrder E k
  | 0 => rfl
  | k + 1 => by rw [inOrder, inOrder, mp_inOrder E k]; rfl
theorem mp_srt (n : Nat) (E : Nat → R × α) : srt n (mp f E) = mp f (srt n E) := by
  unfold srt
  rw [mp_inOrder]
  split
  · rfl
  · exact mp_qs f _ _ _ _ _ _ _
theorem mp_splitF (z : α) (r : R) (n : Nat) (E : Nat → R × α) : splitF (f z) r n (mp f E) = ((splitF z r n E).1, mp f (splitF z r n E).2.1, (splitF z r n E).2.2.1, mp f (splitF z r n E).2.2.2) := by
  have h0 : spl (f z) r.largestAxis r n 0 n (mp f E) 0 (fun _ => (R0, f z)) = _ := mp_spl f z r.largestAxis r n 0 n E 0 (fun _ => (R0, z))
  unfold splitF
  rw [h0]
  generalize spl z r.largestAxis r n 0 n E 0 (fun _ => (R0, z)) = s
  unfold evenUp
  dsimp only
  by_cases c1 : s.1 < 2
  · simp only [if_pos c1]
    rw [mp_qs, mp_fillUp]
    dsimp only
    rw [mp_srt, mp_srt]
  · simp only [if_neg c1]
    by_cases c2 : s.2.2.1 < 2
    · simp only [if_pos c2]
      rw [mp_qs, mp_fillUp]
      dsimp only
      rw [mp_srt, mp_srt]
    · simp only [if_neg c2]
      rw [mp_srt, mp_srt]
theorem mp_rsr (E : Nat → R × α) (key : Int) (n : Nat) : ∀ g i, rsr (mp f E) key n g i = rsr E key n g i
  | 0, i => rfl
  | g + 1, i => by rw [rsr, rsr, mp_rsr E key n g]; rfl
theorem mp_ordR (n : Nat) : ∀ (g i : Nat) (E : Nat → R × α), ordR (mp f E) n g i = mp f (ordR E n g i)
  | 0, i, E => rfl
  | g + 1, i, E => by
    rw [ordR, ordR, show (mp f E (i + 1)).1 = (E (i + 1)).1 from rfl, show (mp f E i).1 = (E i).1 from rfl]
    split
    · rw [← mp_swap]; exact mp_ordR n g (i + 1) _
    · rfl
theorem mp_ordL : ∀ (i : Nat) (E : Nat → R × α), ordL (mp f E) i = mp f (ordL E i)
  | 0, E => rfl
  | i + 1, E => by
    rw [ordL, ordL, show (mp f E (i + 1)).1 = (E (i + 1)).1 from rfl, show (mp f E i).1 = (E i).1 from rfl]
    split
    · rw [← mp_swap]; exact mp_ordL i _
    · rfl
theorem mp_quick (E : Nat → R × α) (s : R) : ∀ k, quickSt (mp f E) s k = quickSt E s k
  | 0 => rfl
  | k + 1 => by rw [quickSt, quickSt, mp_quick E s k]; rfl
theorem mp_pick (E : Nat → R × α) (n : Nat) (s : R) : pick (mp f E) n s = pick E n s := by
  unfold pick
  rw [mp_quick]; rfl
theorem mp_cleave (E : Nat → R × α) (n i : Nat) (l r : R × α) : cleave (mp f E) n i (l.1, f l.2) (r.1, f r.2) = mp f (cleave E n i l r) := by
  unfold cleave
  rw [← mp_upd, ← mp_shiftR, ← mp_upd]
  dsimp only
  split
  · rw [← mp_swap, mp_ordR]
  · rw [mp_ordR]
theorem mp_mp {γ : Type} (g : β → γ) (E : Nat → R × α) : mp g (mp f E) = mp (fun x => g (f x)) E := rfl
end
end Bx
end Go
