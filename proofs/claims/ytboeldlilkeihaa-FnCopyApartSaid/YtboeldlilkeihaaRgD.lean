/- As RgC; beside it, what holds between the values of two operations, whichever came up last. No program in sight. -/
import Derived.Test.YtboeldlilkeihaaRgC
set_option linter.unusedSimpArgs false
set_option linter.unusedVariables false
namespace Go
section
variable {P : Program} {ops : Array Oper} {Q : Exit → Act → World → Prop} {C : World → Prop} {k : Nat}
/-- **Whatever order is picked.** B i: what holds till operation i comes up; A i: what operation i's value is in the world; G i: how it may turn the world; I: what holds of each world on the way. -/
theorem wpAnyK_rgD {us : List Nat} {listed0 : Array Bool} {a0 : Act} {w0 : World} (R2 : Nat → Nat → Value → Value → Prop) (B : Nat → World → Prop) (A : Nat → Value → World → Prop) (G : Nat → World → World → Prop) (I : World → Prop) (hB : rgC ops listed0 us = true) (f : Nat)
    (hIC : ∀ W, I W → C W) (hI0 : I w0) (hB0 : ∀ i ∈ us, B i w0)
    (hBs : ∀ i ∈ us, ∀ j ∈ us, i ≠ j → ∀ w w', B i w → G j w w' → B i w')
    (hst : ∀ i ∈ us, ∀ j ∈ us, i ≠ j → ∀ v w w', A i v w → G j w w' → A i v w')
    (hop : ∀ i ∈ us, ∀ o, ops[i]? = some o → ∀ (D : Nat → Prop) x w, I w → B i w → (∀ j ∈ us, D j → j ≠ i → A j (x j) w) → (∀ e ∈ o.after.toList, Region.binds .any e = true → us.contains e.on = true → A e.on (x e.on) w) →
      ∀ K : Act → World → Prop, (∀ v w', I w' → G i w w' → A i v w' → (∀ j ∈ us, D j → j ≠ i → R2 i j v (x j)) → K ((putU ops us x a0).put o.dst v) w') → Oper.wp P o (putU ops us x a0) w K Q)
    (hend : ∀ x w, I w → (∀ i ∈ us, A i (x i) w) → (∀ i ∈ us, ∀ j ∈ us, i ≠ j → R2 i j (x i) (x j) ∨ R2 j i (x j) (x i)) → wpAnyK P ops Q C k f (setAll us listed0) (putU ops us x a0) w) :
    wpAnyK P ops Q C k (f + us.length) listed0 a0 w0 := by
  simp only [rgC, Bool.and_eq_true] at hB
  obtain ⟨⟨hap, hus⟩, hoth⟩ := hB
  have hus' : ∀ i ∈ us, listed0.getD i true = false ∧ ∃ o, ops[i]? = some o ∧ o.guard = none ∧ ∀ e ∈ o.after, Region.binds .any e = true → listed0.getD e.on false = true ∨ (e.on ∈ us ∧ e.on < i) := by
    intro i hi
    have h := List.all_eq_true.1 hus i hi
    simp only [Bool.and_eq_true, Bool.not_eq_true'] at h
    obtain ⟨h1, h2⟩ := h
    cases ho : ops[i]? with
    | none => rw [ho] at h2; cases h2
    | some o =>
      rw [ho] at h2
      simp only [Bool.and_eq_true, Option.isNone_iff_eq_none] at h2
      obtain ⟨h2, h3⟩ := h2
      refine ⟨h1, o, rfl, h2, fun e he hb => ?_⟩
      have h4 := Array.all_eq_true_iff_forall_mem.1 h3 e he
      rw [hb] at h4
      simp only [Bool.not_true, Bool.false_or, Bool.or_eq_true, Bool.and_eq_true, List.contains_iff_mem] at h4
      rcases h4 with h4 | ⟨h4, h5⟩
      · exact .inl h4
      · exact .inr ⟨h4, by simpa [Nat.blt_eq] using h5⟩
  have hoth' : ∀ j o, ops[j]? = some o → listed0.getD j true = false → j ∉ us → ∀ i ∈ us, reachC ops us (us.length + 1) j i = true := by
    intro j o ho hl hj i hi
    have h := List.all_eq_true.1 hoth j (List.mem_range.2 (Array.getElem?_eq_some_iff.1 ho).1)
    rw [hl] at h
    simp only [Bool.false_or, Bool.or_eq_true, List.contains_iff_mem] at h
    have h := h.resolve_left hj
    exact List.all_eq_true.1 h i hi
  obtain ⟨x0, hx0⟩ := putU_start hap a0
  have main : ∀ (r : Nat) (listed : Array Bool) (x : Nat → Value) (w : World), (us.countP fun i => !(listed.getD i true)) = r → listed.size = listed0.size → (∀ j, j ∉ us → listed.getD j true = listed0.getD j true) → (∀ j, j ∉ us → listed.getD j false = listed0.getD j false) →
      I w → closedC ops us listed → (∀ i ∈ us, listed.getD i true = false → B i w) → (∀ i ∈ us, listed.getD i true = true → A i (x i) w) → (∀ i ∈ us, ∀ j ∈ us, i ≠ j → listed.getD i true = true → listed.getD j true = true → R2 i j (x i) (x j) ∨ R2 j i (x j) (x i)) → wpAnyK P ops Q C k (f + r) listed (putU ops us x a0) w := by
    intro r
    induction r with
    | zero =>
      intro listed x w hc hs hn _ hI _ _ hA hR
      have hall : ∀ i ∈ us, listed.getD i true = true := fun i hi => by
        have := List.countP_eq_zero.1 hc i hi
        simpa using this
      have e : listed = setAll us listed0 := by
        apply Array.ext
        · rw [setAll_size, hs]
        · intro j h1 h2
          have h3 := setAll_get us listed0 j (by omega)
          have h4 : listed.getD j true = (listed0.getD j true || us.contains j) := by
            by_cases hj : j ∈ us
            · rw [hall j hj]; simp [hj]
            · rw [hn j hj]; simp [hj]
          rw [← h3] at h4
          simpa [h1, h2] using h4
      rw [e]
      exact hend x w hI (fun i hi => hA i hi (hall i hi)) fun i hi j hj hij => hR i hi j hj hij (hall i hi) (hall j hj)
    | succ r ih =>
      intro listed x w hc hs hn hn' hI hcl hBB hA hR
      have hone : ∃ i ∈ us, (!(listed.getD i true)) = true := by
        have : 0 < us.countP fun i => !(listed.getD i true) := by omega
        exact List.countP_pos_iff.1 this
      refine ⟨fun hr => ?_, fun i hi => ?_⟩
      · exfalso
        obtain ⟨i, hi, hp, hleast⟩ := exists_leastU hone
        obtain ⟨_, o, ho, _, haft⟩ := hus' i hi
        have : i ∈ Region.ready .any ops listed := mem_ready.2 ⟨by simpa using hp, o, ho, fun e he hb => by
          rcases haft e he hb with h | ⟨h, hlt⟩
          · by_cases hu : e.on ∈ us
            · have h1 := (hus' _ hu).1
              have := (getD_ff h1).1
              rw [this] at h; cases h
            · rw [hn' _ hu]; exact h
          · have h1 := hleast _ h hlt
            have h2 : listed.getD e.on true = true := by simpa using h1
            have h3 := (getD_ff (hus' _ h).1).2
            rw [← hs] at h3
            simpa [h3] using h2⟩
        rw [hr] at this
        cases this
      · obtain ⟨hun, o, ho, hall⟩ := mem_ready.1 hi
        by_cases hu : i ∈ us
        · obtain ⟨_, o', ho', hg, _⟩ := hus' i hu
          rw [ho] at ho'
          obtain rfl := Option.some.inj ho'
          unfold wpOp
          simp only [ho, Region.wanted, hg, if_true]
          refine .inl (hop i hu o ho (fun j => listed.getD j true = true) x w hI (hBB i hu hun) (fun j hj hd _ => hA j hj hd) (fun e he hb hc => hA _ (by simpa using hc) ?_) _ fun v w' hI' hG hAv hRv => ?_)
          · have h := hall e (Array.mem_toList_iff.1 he) hb
            have hc' : e.on ∈ us := by simpa using hc
            have h3 := (getD_ff (hus' _ hc').1).2
            rw [← hs] at h3
            simpa [h3] using h
          · have hd : o.dst = dstOf ops i := by unfold dstOf; rw [ho]; rfl
            rw [hd, putU_put hap hu]
            have hlt := (getD_ff hun).2
            refine ⟨fun _ => hIC _ hI', ih _ _ _ ?_ (by simpa using hs) (fun j hj => ?_) (fun j hj => ?_) hI' (hcl.set ho hall) (fun j hj hl => ?_) (fun j hj hl => ?_) (fun j hj m hm hjm hl hl' => ?_)⟩
            · have h := countP_upd (apartU_nodup hap) hu (p := fun i => !(listed.getD i true)) (q := fun j => !((listed.setIfInBounds i true).getD j true)) (by simp [hun]) (by simp [hlt]) (fun j _ hji => by rw [getD_set_ne true (Ne.symm hji)])
              omega
            · rw [getD_set_ne true (fun e : i = j => hj (e ▸ hu))]; exact hn j hj
            · rw [getD_set_ne false (fun e : i = j => hj (e ▸ hu))]; exact hn' j hj
            · by_cases hji : j = i
              · subst hji
                simp [hlt] at hl
              · rw [getD_set_ne true (Ne.symm hji)] at hl
                exact hBs j hj i hu hji _ _ (hBB j hj hl) hG
            · by_cases hji : j = i
              · subst hji
                have e : updN x j v j = v := if_pos rfl
                rw [e]; exact hAv
              · have e : updN x i v j = x j := if_neg hji
                rw [e]
                rw [getD_set_ne true (Ne.symm hji)] at hl
                exact hst j hj i hu hji _ _ _ (hA j hj hl) hG
            · by_cases hji : j = i
              · subst hji
                have e : updN x j v j = v := if_pos rfl
                have e' : updN x j v m = x m := if_neg (Ne.symm hjm)
                rw [e, e']
                rw [getD_set_ne true hjm] at hl'
                exact .inl (hRv m hm hl' (Ne.symm hjm))
              · by_cases hmi : m = i
                · subst hmi
                  have e : updN x m v m = v := if_pos rfl
                  have e' : updN x m v j = x j := if_neg hji
                  rw [e, e']
                  rw [getD_set_ne true (Ne.symm hji)] at hl
                  exact .inr (hRv j hj hl hji)
                · have e : updN x i v j = x j := if_neg hji
                  have e' : updN x i v m = x m := if_neg hmi
                  rw [e, e']
                  rw [getD_set_ne true (Ne.symm hji)] at hl
                  rw [getD_set_ne true (Ne.symm hmi)] at hl'
                  exact hR j hj m hm hjm hl hl'
        · exfalso
          rw [hn i hu] at hun
          obtain ⟨m, hm, hp⟩ := hone
          have h1 := reachC_listed hcl _ ho hall (hoth' i o ho hun hu m hm)
          have h2 := (getD_ff (l := listed) (j := m) (by simpa using hp)).1
          rw [h2] at h1
          cases h1
  have h0 := main us.length listed0 x0 w0 (by
    rw [List.countP_eq_length]
    intro i hi
    rw [(hus' i hi).1]; rfl) rfl (fun _ _ => rfl) (fun _ _ => rfl) hI0 (fun i hi h => by rw [(hus' i hi).1] at h; cases h) (fun i hi _ => hB0 i hi) (fun i hi h => by rw [(hus' i hi).1] at h; cases h) (fun i hi _ _ _ h _ => by rw [(hus' i hi).1] at h; cases h)
  rw [hx0] at h0
  exact h0
end
end Go
