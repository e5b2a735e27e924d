/- A region whose order is open: if the reads stand first, and each write comes behind them and is followed by plain steps alone, then one walk in the order of the text serves every order. No program in sight. -/
import Derived.Deep.Quiet
set_option linter.unusedSimpArgs false
set_option linter.unusedVariables false
namespace Go.Mix
section
variable {P : Program} {ops : Array Oper} {E : World → World → Prop} {S C : World → Prop}

/-- What one operation does in the world W: it yields v and leaves a world that stands to w' as E says (more draws, say). -/
def doesAt (P : Program) (E : World → World → Prop) (o : Oper) (a : Act) (W : World) (v : Value) (w' : World) : Prop :=
  match (execOp a.eval o).run P W with
  | .ok (.value u) W' => u = v ∧ E w' W'
  | .ok .skip W' => v = undef ∧ E w' W'
  | .ok (.enter f args) W' => Calls P f args W' fun e w'' => e = .returned v ∧ E w' w''
  | _ => False

/-- The same value in every world of S, the world left alone. -/
def freeAt (P : Program) (S : World → Prop) (o : Oper) (a : Act) (v : Value) : Prop :=
  ∀ W, S W → (execOp a.eval o).run P W = .ok (.value v) W ∨ ((execOp a.eval o).run P W = .ok .skip W ∧ v = undef)

/-- Whatever it does: each outcome v, w' is one of K. -/
def stepW (P : Program) (E : World → World → Prop) (S : World → Prop) (o : Oper) (a : Act) (w : World) (K : Value → World → Prop) : Prop :=
  ∀ W, E w W → match (execOp a.eval o).run P W with
  | .ok (.value u) W' => ∃ w', E w' W' ∧ S w' ∧ K u w'
  | .ok .skip W' => ∃ w', E w' W' ∧ S w' ∧ K undef w'
  | .ok (.enter f args) W' => Calls P f args W' fun e w'' => ∃ v w', e = .returned v ∧ E w' w'' ∧ S w' ∧ K v w'
  | _ => False

/-- One step of class c: 0 free, 1 reads, else whatever. -/
def stepM (P : Program) (E : World → World → Prop) (S : World → Prop) (ops : Array Oper) (c : Nat) (o : Oper) (a : Act) (w : World) (K : Value → World → Prop) : Prop :=
  if Region.wanted o (yielded ops a.tmps) then
    match c with
    | 0 => ∃ v, freeAt P S o a v ∧ K v w
    | 1 => ∃ v, (∀ W, E w W → doesAt P E o a W v w) ∧ K v w
    | _ => stepW P E S o a w K
  else K undef w

theorem stepM_no {c : Nat} {o : Oper} {a : Act} {w : World} {K : Value → World → Prop} (hw : ¬ Region.wanted o (yielded ops a.tmps) = true) : stepM P E S ops c o a w K = K undef w := if_neg hw
theorem stepM_0 {o : Oper} {a : Act} {w : World} {K : Value → World → Prop} (hw : Region.wanted o (yielded ops a.tmps) = true) : stepM P E S ops 0 o a w K = ∃ v, freeAt P S o a v ∧ K v w := if_pos hw
theorem stepM_1 {o : Oper} {a : Act} {w : World} {K : Value → World → Prop} (hw : Region.wanted o (yielded ops a.tmps) = true) : stepM P E S ops 1 o a w K = ∃ v, (∀ W, E w W → doesAt P E o a W v w) ∧ K v w := if_pos hw

theorem stepW_mono {o : Oper} {a : Act} {w : World} {K K' : Value → World → Prop} (h : ∀ v w', S w' → K v w' → K' v w') (hh : stepW P E S o a w K) : stepW P E S o a w K' := by
  intro W hW
  have h1 := hh W hW
  generalize (execOp a.eval o).run P W = r at *
  cases r with
  | halt x w' => exact h1.elim
  | ok n W' =>
    cases n <;> first | exact h1.elim | skip
    case value u => obtain ⟨w', h2, h3, h4⟩ := h1; exact ⟨w', h2, h3, h _ _ h3 h4⟩
    case skip => obtain ⟨w', h2, h3, h4⟩ := h1; exact ⟨w', h2, h3, h _ _ h3 h4⟩
    case enter f args =>
      exact Calls.mono h1 fun e w'' ⟨v, w', h2, h3, h4, h5⟩ => ⟨v, w', h2, h3, h4, h _ _ h4 h5⟩

theorem stepM_mono {c : Nat} {o : Oper} {a : Act} {w : World} {K K' : Value → World → Prop} (hs : S w) (h : ∀ v w', S w' → K v w' → K' v w') (hh : stepM P E S ops c o a w K) : stepM P E S ops c o a w K' := by
  unfold stepM at *
  split
  · rename_i hw
    rw [if_pos hw] at hh
    match c, hh with
    | 0, ⟨v, h1, h2⟩ => exact ⟨v, h1, h _ _ hs h2⟩
    | 1, ⟨v, h1, h2⟩ => exact ⟨v, h1, h _ _ hs h2⟩
    | _ + 2, hh => exact stepW_mono h hh
  · rename_i hw
    rw [if_neg hw] at hh
    exact h _ _ hs hh

/-- A step has an outcome. -/
theorem stepM_some {c : Nat} {o : Oper} {a : Act} {w : World} {K : Value → World → Prop} (hE : E w w) (hh : stepM P E S ops c o a w K) : ∃ v w', K v w' := by
  unfold stepM at hh
  split at hh
  · match c, hh with
    | 0, ⟨v, _, h2⟩ => exact ⟨v, w, h2⟩
    | 1, ⟨v, _, h2⟩ => exact ⟨v, w, h2⟩
    | _ + 2, hh =>
      have h1 := hh w hE
      generalize (execOp a.eval o).run P w = r at *
      cases r with
      | halt x w' => exact h1.elim
      | ok n W' =>
        cases n <;> first | exact h1.elim | skip
        case value u => obtain ⟨w', _, _, h4⟩ := h1; exact ⟨_, w', h4⟩
        case skip => obtain ⟨w', _, _, h4⟩ := h1; exact ⟨_, w', h4⟩
        case enter f args =>
          obtain ⟨e, w'', fr, ⟨v, w', _, _, _, h5⟩, _⟩ := h1 []
          exact ⟨v, w', h5⟩
  · exact ⟨_, _, hh⟩

def comm (c c' : Nat) : Bool := Nat.beq c 0 || (Nat.beq c' 0 || (Nat.beq c 1 && Nat.beq c' 1))

theorem stepM_congr {c : Nat} {o : Oper} {a a' : Act} (he : execOp a'.eval o = execOp a.eval o) (hw : Region.wanted o (yielded ops a'.tmps) = Region.wanted o (yielded ops a.tmps))
    {w : World} {K : Value → World → Prop} (h : stepM P E S ops c o a w K) : stepM P E S ops c o a' w K := by
  unfold stepM freeAt doesAt stepW at *
  rw [hw, he]
  exact h

theorem free_one {o : Oper} {a : Act} {u v : Value} {w : World} (hs : S w) (hu : freeAt P S o a u) (hv : freeAt P S o a v) : u = v := by
  rcases hu w hs with h1 | ⟨h1, h1'⟩ <;> rcases hv w hs with h2 | ⟨h2, h2'⟩ <;> rw [h1] at h2
  · simpa using h2
  · simp at h2
  · simp at h2
  · rw [h1', h2']

/-- Two steps that commute. -/
theorem swap {ci cj : Nat} {oi oj : Oper} {a : Act} {w : World} {K : Value → Value → World → Prop} (hap : oi.apart ops oj = true) (hc : comm ci cj = true) (hs : S w) (hE : E w w)
    (hsi : ∀ cs b, oi.op ≠ .select cs b) (hsj : ∀ cs b, oj.op ≠ .select cs b)
    (h : stepM P E S ops ci oi a w fun v w1 => stepM P E S ops cj oj (a.put oi.dst v) w1 fun u w2 => K v u w2) :
    stepM P E S ops cj oj a w fun u w1 => stepM P E S ops ci oi (a.put oj.dst u) w1 fun v w2 => K v u w2 := by
  obtain ⟨h1, h2, h3⟩ := Oper.apart_spec hap
  have ej : ∀ v, execOp (a.put oi.dst v).eval oj = execOp a.eval oj := fun v => execOp_put oj hsj a oi.dst v h1
  have wj : ∀ v, Region.wanted oj (yielded ops (a.put oi.dst v).tmps) = Region.wanted oj (yielded ops a.tmps) := fun v => wanted_put oj a oi.dst v h1
  have ei : ∀ u, execOp (a.put oj.dst u).eval oi = execOp a.eval oi := fun u => execOp_put oi hsi a oj.dst u h3
  have wi : ∀ u, Region.wanted oi (yielded ops (a.put oj.dst u).tmps) = Region.wanted oi (yielded ops a.tmps) := fun u => wanted_put oi a oj.dst u h3
  -- the inner step said of the frame a
  have h' : stepM P E S ops ci oi a w fun v w1 => stepM P E S ops cj oj a w1 fun u w2 => K v u w2 :=
    stepM_mono hs (fun v w1 _ hk => stepM_congr (ej v).symm (wj v).symm hk) h
  suffices hg : stepM P E S ops cj oj a w fun u w1 => stepM P E S ops ci oi a w1 fun v w2 => K v u w2 from
    stepM_mono hs (fun u w1 _ hk => stepM_congr (ei u) (wi u) hk) hg
  clear h
  by_cases hwi : Region.wanted oi (yielded ops a.tmps) = true
  case neg =>
    rw [stepM_no hwi] at h'
    exact stepM_mono hs (fun u w1 _ hk => by rw [stepM_no hwi]; exact hk) h'
  by_cases hwj : Region.wanted oj (yielded ops a.tmps) = true
  case neg =>
    rw [stepM_no hwj]
    exact stepM_mono hs (fun v w1 _ hk => by rw [stepM_no hwj] at hk; exact hk) h'
  match ci, cj, hc with
  | 0, cj, _ =>
    rw [stepM_0 hwi] at h'
    obtain ⟨v, hf, hk⟩ := h'
    exact stepM_mono hs (fun u w1 _ hk => by rw [stepM_0 hwi]; exact ⟨v, hf, hk⟩) hk
  | ci + 1, 0, _ =>
    obtain ⟨v0, w0, hk0⟩ := stepM_some hE h'
    rw [stepM_0 hwj] at hk0
    obtain ⟨u0, hf0, _⟩ := hk0
    rw [stepM_0 hwj]
    refine ⟨u0, hf0, ?_⟩
    refine stepM_mono hs (fun v w1 hs1 hk => ?_) h'
    rw [stepM_0 hwj] at hk
    obtain ⟨u, hf, hk⟩ := hk
    rw [free_one hs1 hf0 hf]
    exact hk
  | 1, 1, _ =>
    rw [stepM_1 hwi] at h'
    obtain ⟨v, hf, hk⟩ := h'
    rw [stepM_1 hwj] at hk ⊢
    obtain ⟨u, hg, hk⟩ := hk
    refine ⟨u, hg, ?_⟩
    rw [stepM_1 hwi]
    exact ⟨v, hf, hk⟩
  | 1, cj + 2, hc => simp [comm] at hc
  | ci + 2, cj + 1, hc => simp [comm] at hc

/-- Direct and far dependence. -/
def dep (ops : Array Oper) (j i : Nat) : Prop := ∃ oj, ops[j]? = some oj ∧ ∃ e ∈ oj.after, Region.binds .any e = true ∧ e.on = i
inductive anc (ops : Array Oper) : Nat → Nat → Prop
  | base {j i : Nat} : dep ops j i → anc ops j i
  | step {j k i : Nat} : dep ops j k → anc ops k i → anc ops j i
def closed (ops : Array Oper) (listed : Array Bool) : Prop := ∀ k, listed.getD k false = true → ∀ i, dep ops k i → listed.getD i false = true

theorem anc_listed {listed : Array Bool} (hc : closed ops listed) {j i : Nat} (h : anc ops j i) (hd : ∀ k, dep ops j k → listed.getD k false = true) : listed.getD i false = true := by
  induction h with
  | base h => exact hd _ h
  | step h _ ih => exact ih (hc _ (hd _ h))

theorem ready_dep {listed : Array Bool} {j : Nat} (hj : j ∈ Region.ready .any ops listed) : ∀ k, dep ops j k → listed.getD k false = true := by
  obtain ⟨_, o, ho, hall⟩ := mem_ready.1 hj
  rintro k ⟨oj, hoj, e, he, hb, rfl⟩
  rw [ho] at hoj
  obtain rfl := Option.some.inj hoj
  exact hall e he hb

theorem closed_set {listed : Array Bool} (hc : closed ops listed) {j : Nat} (hj : j ∈ Region.ready .any ops listed) : closed ops (listed.setIfInBounds j true) := by
  intro k hk i hd
  by_cases hjk : j = k
  · subst hjk; exact getD_set_true (ready_dep hj i hd)
  · rw [getD_set_ne false hjk] at hk; exact getD_set_true (hc k hk i hd)

def wpAnyM (P : Program) (E : World → World → Prop) (S : World → Prop) (ops : Array Oper) (cl : Nat → Nat) (Q : Act → World → Prop) : Nat → Array Bool → Act → World → Prop
  | 0, listed, a, w => Region.ready .any ops listed = [] ∧ Q a w
  | fuel + 1, listed, a, w =>
    (Region.ready .any ops listed = [] → Q a w) ∧
    ∀ i ∈ Region.ready .any ops listed, ∃ o, ops[i]? = some o ∧ stepM P E S ops (cl i) o a w fun v w' => wpAnyM P E S ops cl Q fuel (listed.setIfInBounds i true) (a.put o.dst v) w'

theorem wpAnyM_first {cl : Nat → Nat} {Q : Act → World → Prop} {i : Nat} {oi : Oper} (hi : ops[i]? = some oi) (hE : ∀ w, E w w)
    (hsel : ∀ (j : Nat) (o : Oper) cs b, ops[j]? = some o → o.op ≠ .select cs b) :
    ∀ (fuel : Nat) (listed : Array Bool) (a : Act) (w : World), closed ops listed → S w →
      (∀ j oj, ops[j]? = some oj → j ≠ i → listed.getD j true = false → anc ops j i ∨ (oi.apart ops oj = true ∧ comm (cl i) (cl j) = true)) →
      i ∈ Region.ready .any ops listed → (stepM P E S ops (cl i) oi a w fun v w1 => wpAnyM P E S ops cl Q fuel (listed.setIfInBounds i true) (a.put oi.dst v) w1) →
      wpAnyM P E S ops cl Q (fuel + 1) listed a w := by
  intro fuel
  induction fuel with
  | zero =>
    intro listed a w _ hs _ hr H
    refine ⟨fun h => (by rw [h] at hr; cases hr), fun j hj => ?_⟩
    by_cases hji : j = i
    · subst hji; exact ⟨oi, hi, H⟩
    · have := ready_mono hj hji
      obtain ⟨v, w', hz, _⟩ := stepM_some (hE w) H
      rw [hz] at this
      cases this
  | succ fuel ih =>
    intro listed a w hc hs hfree hr H
    refine ⟨fun h => (by rw [h] at hr; cases hr), fun j hj => ?_⟩
    by_cases hji : j = i
    · subst hji; exact ⟨oi, hi, H⟩
    · obtain ⟨_, oj, hoj, _⟩ := mem_ready.1 hj
      have hjun := (mem_ready.1 hj).1
      have hiun := (mem_ready.1 hr).1
      have hilt : i < listed.size := by
        rcases Nat.lt_or_ge i listed.size with h' | h'
        · exact h'
        · simp [Array.getElem?_eq_none h'] at hiun
      have hiun' : listed.getD i false = false := by
        simp [hilt] at hiun ⊢; exact hiun
      have hnot : ¬ anc ops j i := fun ha => by
        have := anc_listed hc ha (ready_dep hj)
        rw [hiun'] at this; cases this
      obtain ⟨hap, hcm⟩ := (hfree j oj hoj hji hjun).resolve_left hnot
      refine ⟨oj, hoj, ?_⟩
      have H2 : stepM P E S ops (cl i) oi a w fun v w1 => stepM P E S ops (cl j) oj (a.put oi.dst v) w1 fun u w2 =>
          wpAnyM P E S ops cl Q fuel ((listed.setIfInBounds i true).setIfInBounds j true) ((a.put oi.dst v).put oj.dst u) w2 :=
        stepM_mono hs (fun v w1 _ hk => by
          obtain ⟨oj', hoj', hst⟩ := hk.2 j (ready_mono hj hji)
          rw [hoj] at hoj'
          obtain rfl := Option.some.inj hoj'
          exact hst) H
      refine stepM_mono hs (fun u w1 hs1 hk => ?_) (swap hap hcm hs (hE w) (fun cs b => hsel i oi cs b hi) (fun cs b => hsel j oj cs b hoj) H2)
      refine ih (listed.setIfInBounds j true) _ _ (closed_set hc hj) hs1 (fun k ok hk hki hun => ?_) (ready_mono hr (Ne.symm hji)) ?_
      · refine hfree k ok hk hki ?_
        by_cases hjk : j = k
        · subst hjk; exact hjun
        · rw [getD_set_ne true hjk] at hun; exact hun
      · refine stepM_mono hs1 (fun v w2 _ hk => ?_) hk
        rw [Array.setIfInBounds_comm _ _ hji, ← Act.put_comm a v u (Oper.apart_spec hap).2.1]
        exact hk

/-- The lexical walk by classes. -/
def wpLexM (P : Program) (E : World → World → Prop) (S : World → Prop) (ops : Array Oper) (cl : Nat → Nat) (Q : Act → World → Prop) : Nat → List Oper → Act → World → Prop
  | _, [], a, w => Q a w
  | k, o :: l, a, w => stepM P E S ops (cl k) o a w fun v w' => wpLexM P E S ops cl Q (k + 1) l (a.put o.dst v) w'

def okPair (ops : Array Oper) (cl : Nat → Nat) : Prop :=
  ∀ i j oi oj, ops[i]? = some oi → ops[j]? = some oj → i < j → anc ops j i ∨ (oi.apart ops oj = true ∧ comm (cl i) (cl j) = true)
def okEdge (ops : Array Oper) : Prop := ∀ j i, dep ops j i → i < j

theorem listed_lt {n k j : Nat} : ((Array.range n).map (fun i => decide (i < k))).getD j false = (decide (j < n) && decide (j < k)) := by
  by_cases h : j < n
  · simp [h]
  · simp [h]
theorem listed_lt' {n k j : Nat} (h : j < n) : ((Array.range n).map (fun i => decide (i < k))).getD j true = decide (j < k) := by
  simp [h]
theorem listed_set {n k : Nat} (h : k < n) : ((Array.range n).map (fun i => decide (i < k))).setIfInBounds k true = (Array.range n).map (fun i => decide (i < k + 1)) := by
  apply Array.ext
  · simp
  · intro i h1 h2
    simp only [Array.size_setIfInBounds, Array.size_map, Array.size_range] at h1
    rw [Array.getElem_setIfInBounds (by simpa using h1)]
    simp only [Array.getElem_map, Array.getElem_range]
    by_cases hik : k = i
    · subst hik; simp
    · simp only [hik, if_false]
      congr 1
      simp only [eq_iff_iff]
      omega

theorem wpAnyM_of_lex {cl : Nat → Nat} {Q : Act → World → Prop} (hp : okPair ops cl) (he : okEdge ops) (hE : ∀ w, E w w)
    (hsel : ∀ (j : Nat) (o : Oper) cs b, ops[j]? = some o → o.op ≠ .select cs b) :
    ∀ (l : List Oper) (k : Nat) (a : Act) (w : World), k + l.length = ops.size → (∀ j, l[j]? = ops[k + j]?) → S w → wpLexM P E S ops cl Q k l a w →
      wpAnyM P E S ops cl Q l.length ((Array.range ops.size).map (fun i => decide (i < k))) a w := by
  intro l
  induction l with
  | nil =>
    intro k a w hk _ _ h
    refine ⟨?_, h⟩
    rw [List.eq_nil_iff_forall_not_mem]
    intro j hj
    obtain ⟨h0, o, ho, _⟩ := mem_ready.1 hj
    have hlt : j < ops.size := (Array.getElem?_eq_some_iff.1 ho).1
    rw [listed_lt' hlt] at h0
    simp at h0 hk
    omega
  | cons o l ih =>
    intro k a w hk hl hs h
    have h0 : ops[k]? = some o := by simpa using (hl 0).symm
    have hlt : k < ops.size := (Array.getElem?_eq_some_iff.1 h0).1
    refine wpAnyM_first h0 hE hsel l.length _ a w ?_ hs ?_ ?_ ?_
    · intro j hj i hd
      rw [listed_lt] at *
      have := he j i hd
      simp at hj ⊢
      omega
    · intro j oj hj hne hun
      have hjlt : j < ops.size := (Array.getElem?_eq_some_iff.1 hj).1
      rw [listed_lt' hjlt] at hun
      simp at hun
      exact hp k j o oj h0 hj (by omega)
    · rw [mem_ready]
      refine ⟨by rw [listed_lt' hlt]; simp, o, h0, fun e hem hb => ?_⟩
      have := he k e.on ⟨o, h0, e, hem, hb, rfl⟩
      rw [listed_lt]; simp; omega
    · rw [listed_set hlt]
      exact stepM_mono hs (fun v w' hs' hk' => ih (k + 1) _ _ (by simp at hk; omega) (fun j => by have := hl (j + 1); simpa [Nat.add_assoc, Nat.add_comm 1 j] using this) hs' hk') h

theorem wp_of_does {o : Oper} {a : Act} {W w' : World} {v : Value} {K : Act → World → Prop} {Q : Exit → Act → World → Prop} (h : doesAt P E o a W v w')
    (hK : ∀ W', E w' W' → K (a.put o.dst v) W') : o.wp P a W K Q := by
  unfold Oper.wp
  unfold doesAt at h
  generalize (execOp a.eval o).run P W = r at *
  cases r with
  | halt x w' => exact h.elim
  | ok n w' =>
    cases n <;> first | exact h.elim | skip
    case value u =>
      obtain ⟨rfl, hE⟩ := h
      simp only [Oper.upon]; exact hK _ hE
    case skip =>
      obtain ⟨rfl, hE⟩ := h
      simp only [Oper.upon]; exact hK _ hE
    case enter f args =>
      simp only [Oper.upon]
      refine Calls.mono h fun e w'' ⟨he, hE⟩ => ?_
      subst he; exact hK _ hE

theorem wp_of_stepW {o : Oper} {a : Act} {w W : World} {L : Value → World → Prop} {K : Act → World → Prop} {Q : Exit → Act → World → Prop} (hW : E w W) (h : stepW P E S o a w L)
    (hK : ∀ v w' W', E w' W' → S w' → L v w' → K (a.put o.dst v) W') : o.wp P a W K Q := by
  have h := h W hW
  unfold Oper.wp
  generalize (execOp a.eval o).run P W = r at *
  cases r with
  | halt x w' => exact h.elim
  | ok n w' =>
    cases n <;> first | exact h.elim | skip
    case value u =>
      obtain ⟨w1, h1, h2, h3⟩ := h
      simp only [Oper.upon]; exact hK _ _ _ h1 h2 h3
    case skip =>
      obtain ⟨w1, h1, h2, h3⟩ := h
      simp only [Oper.upon]; exact hK _ _ _ h1 h2 h3
    case enter f args =>
      simp only [Oper.upon]
      refine Calls.mono h fun e w'' ⟨v, w1, he, h1, h2, h3⟩ => ?_
      subst he; exact hK _ _ _ h1 h2 h3

theorem wpAny_of_M {cl : Nat → Nat} {Q : Act → World → Prop} {Q' : Exit → Act → World → Prop} (hES : ∀ w W, S w → E w W → S W) (hQ : ∀ a w W, E w W → Q a w → Q' .normal a W) :
    ∀ (fuel : Nat) (listed : Array Bool) (a : Act) (w W : World), E w W → S w → wpAnyM P E S ops cl Q fuel listed a w → wpAny P .any ops Q' fuel listed a W
  | 0, _, _, _, _, hE, _, h => ⟨h.1, hQ _ _ _ hE h.2⟩
  | fuel + 1, listed, a, w, W, hE, hs, h => ⟨fun h0 => hQ _ _ _ hE (h.1 h0), fun i hi => by
      obtain ⟨o, ho, hst⟩ := h.2 i hi
      unfold wpOp
      simp only [ho]
      unfold stepM at hst
      by_cases hw : Region.wanted o (yielded ops a.tmps) = true
      · rw [if_pos hw] at hst
        rw [if_pos hw]
        left
        generalize hcl : cl i = c at hst
        match c, hst with
        | 0, ⟨v, hf, hr⟩ =>
          refine wp_of_does (E := E) (v := v) (w' := w) ?_ fun W' hE' => wpAny_of_M hES hQ fuel _ _ _ W' hE' hs hr
          unfold doesAt
          rcases hf W (hES w W hs hE) with h1 | ⟨h1, h2⟩ <;> rw [h1]
          · exact ⟨rfl, hE⟩
          · exact ⟨h2, hE⟩
        | 1, ⟨v, hf, hr⟩ => exact wp_of_does (hf W hE) fun W' hE' => wpAny_of_M hES hQ fuel _ _ _ W' hE' hs hr
        | _ + 2, hst => exact wp_of_stepW hE hst fun v w' W' h1 h2 h3 => wpAny_of_M hES hQ fuel _ _ _ W' h1 h2 h3
      · rw [if_neg hw] at hst
        rw [if_neg hw]
        exact wpAny_of_M hES hQ fuel _ _ _ _ hE hs hst⟩

theorem wp_region_lexM {id : Nat} {cl : Nat → Nat} {Q : Exit → Act → World → Prop} {a : Act} {w : World} (hm : P.follows .mixedOrders = true) (hp : okPair ops cl) (he : okEdge ops)
    (hsel : ∀ (j : Nat) (o : Oper) cs b, ops[j]? = some o → o.op ≠ .select cs b)
    (hE0 : ∀ w, E w w) (hES : ∀ w W, S w → E w W → S W) (hE : E w { w with drawn := w.drawn + 1 }) (hs : S w)
    (h : wpLexM P E S ops cl (fun a w' => ∀ W, E w' W → Q .normal a W) 0 ops.toList a w) : (Code.region id ops true).wp P Q a w := by
  refine wp_region_any hm ?_
  have := wpAnyM_of_lex hp he hE0 hsel ops.toList 0 a w (by simp) (by simp) hs h
  have h2 := wpAny_of_M (Q' := Q) hES (fun a w W hE h => h W hE) _ _ _ _ _ hE hs this
  rw [Array.length_toList] at h2
  have e : (Array.range ops.size).map (fun i => decide (i < 0)) = Array.replicate ops.size false := by
    apply Array.ext <;> simp
  rw [e] at h2
  exact h2

/-! ### The walk in the kit's own words: reads first, then writes, each followed by free steps -/
def isMove (o : Oper) : Bool := match o.op with | .move _ | .assign _ => true | _ => false
def isPlain (o : Oper) : Bool := match o.op with
  | .move _ | .assign _ | .pick .. | .build .. | .fieldAddr .. | .field .. | .unOp .. | .nilCheck _ | .binOp .. | .convert .. | .indexAddr .. | .index .. | .extract .. | .slice .. | .load .. | .makeFunc .. => true
  | _ => false
def notSelect (o : Oper) : Bool := match o.op with | .select .. => false | _ => true

/-- Behind the reads: one write, then k free steps, and so on. -/
def wpTl (P : Program) (E : World → World → Prop) (S C : World → Prop) (ops : Array Oper) (Q : Act → World → Prop) : List Nat → List Oper → Act → World → Prop
  | [], [], a, w => Q a w
  | k :: ks, o :: l, a, w => stepW P E S o a w fun v w' => wpQuiet P ops C (fun a2 => wpTl P E S C ops Q ks (l.drop k) a2 w') (l.take k) (a.put o.dst v)
  | _, _, _, _ => False

theorem move_free {o : Oper} (h : isMove o = true) (a : Act) : ∃ v, freeAt P S o a v := by
  unfold isMove at h
  split at h
  · rename_i x hx
    refine ⟨a.eval x, fun W _ => .inl ?_⟩
    unfold execOp; rw [hx]; rfl
  · rename_i x hx
    refine ⟨a.eval x, fun W _ => .inl ?_⟩
    unfold execOp; rw [hx]; rfl
  · cases h

theorem does_of_quiet {o : Oper} {a : Act} {w W : World} {v : Value} (h : o.quietAt P a (E w) W v) (hW : E w W) : doesAt P E o a W v w := by
  unfold Oper.quietAt at h
  unfold doesAt
  generalize (execOp a.eval o).run P W = r at *
  cases r with
  | halt x w' => exact h.elim
  | ok x w' =>
    cases x <;> first | exact h.elim | skip
    case value u => obtain ⟨rfl, h2⟩ := h; exact ⟨h2, hW⟩
    case skip => obtain ⟨rfl, h2⟩ := h; exact ⟨h2, hW⟩
    case enter f args =>
      obtain ⟨rfl, hc⟩ := h
      exact hc

theorem no_enter (o : Oper) (hc : isPlain o = true) (ρ : Operand → Value) (W W' : World) (f : FuncId) (args : Array Value) : (execOp ρ o).run P W ≠ .ok (.enter f args) W' := by
  intro h
  have key : ∀ (s : Sem Value), (do let x ← s; pure (Next.value x) : Sem Next).run P W ≠ .ok (.enter f args) W' := by
    intro s hs
    rw [Sem.run_bind] at hs
    cases hr : s.run P W with
    | halt x w' => rw [hr] at hs; simp [Result.andThen] at hs
    | ok x w' => rw [hr] at hs; simp [Result.andThen, pure, Sem.run] at hs
  have keyu : ∀ (s : Sem Unit), (do s; pure Next.skip : Sem Next).run P W ≠ .ok (.enter f args) W' := by
    intro s hs
    rw [Sem.run_bind] at hs
    cases hr : s.run P W with
    | halt x w' => rw [hr] at hs; simp [Result.andThen] at hs
    | ok x w' => rw [hr] at hs; simp [Result.andThen, pure, Sem.run] at hs
  have keyb : ∀ {α : Type} (s : Sem α) (g : α → Next), (∀ x, g x ≠ .enter f args) → (do let x ← s; pure (g x) : Sem Next).run P W ≠ .ok (.enter f args) W' := by
    intro α s g hg hs
    rw [Sem.run_bind] at hs
    cases hr : s.run P W with
    | halt x w' => rw [hr] at hs; simp [Result.andThen] at hs
    | ok x w' =>
      rw [hr] at hs
      simp [Result.andThen, pure, Sem.run] at hs
      exact hg _ hs.1
  obtain ⟨dst, op, type, pos, after, guard⟩ := o
  cases op <;> simp only [execOp, isPlain] at h hc
  all_goals first
    | (cases hc; done)
    | exact key _ h
    | exact keyb _ _ (fun x => by intro hx; cases hx) h
    | (simp [pure, Sem.run] at h; done)
    | skip
  case nilCheck x =>
    generalize ρ x = v at h
    have hp : ∀ W, (runtimePanic .nilDeref : Sem Next).run P W ≠ .ok (.enter f args) W' := by
      intro W hs
      simp [runtimePanic, goPanic, program, Sem.run_bind, Sem.run, Result.andThen] at hs
    split at h
    · exact hp _ h
    · exact hp _ h
    · exact hp _ h
    · split at h
      · exact hp _ h
      · rw [Sem.run_bind] at h
        simp only [program, Sem.run, pure, Result.andThen] at h
        rw [Sem.run_bind] at h
        revert h
        generalize Sem.run P (nilAhead _ _ _ _) W = r
        intro h
        cases r with
        | halt x w => simp [Result.andThen] at h
        | ok x w =>
          simp only [Result.andThen] at h
          split at h
          · rw [Sem.run_bind] at h; simp [unsupported, Sem.run, Result.andThen] at h
          · simp [Sem.run] at h
      · simp [pure, Sem.run] at h
    · simp [pure, Sem.run] at h

theorem free_of_quiet {o : Oper} (hSC : ∀ W, S W → C W) (hc : isPlain o = true) {a : Act} {v : Value} (h : ∀ W, C W → o.quietAt P a C W v) : freeAt P S o a v := by
  intro W hW
  have h1 := h W (hSC W hW)
  unfold Oper.quietAt at h1
  have h2 := no_enter (P := P) o hc a.eval W
  generalize (execOp a.eval o).run P W = r at *
  cases r with
  | halt x w' => exact h1.elim
  | ok x w' =>
    cases x <;> first | exact h1.elim | skip
    case value u => obtain ⟨rfl, rfl⟩ := h1; exact .inl rfl
    case skip => obtain ⟨rfl, rfl⟩ := h1; exact .inr ⟨rfl, rfl⟩
    case enter f args => exact (h2 _ _ _ rfl).elim

/-- The classes: n reads ahead (moves are free), then for each number of ks one write and so many free steps. -/
def tlClass : List Nat → List Nat
  | [] => []
  | k :: ks => 2 :: (List.replicate k 0 ++ tlClass ks)
def clsOf (l : List Oper) (n : Nat) (ks : List Nat) : List Nat := (l.take n).map (fun o => if isMove o then 0 else 1) ++ tlClass ks
/-- The same, but all that stands ahead is free (it reads what no write of the region turns). -/
def clsFree (n : Nat) (ks : List Nat) : List Nat := List.replicate n 0 ++ tlClass ks

/-- k free steps. -/
theorem lex_of_free {cl : Nat → Nat} {Q : Act → World → Prop} {R : List Oper → Act → World → Prop} {cs : List Nat} (hSC : ∀ W, S W → C W) (k : Nat) :
    ∀ (l : List Oper) (i : Nat) (a : Act) (w : World), (∀ j c, (List.replicate k 0 ++ cs)[j]? = some c → cl (i + j) = c) →
    (∀ (j : Nat) (o : Oper), l[j]? = some o → (List.replicate k 0 ++ cs)[j]? = some 0 → isPlain o = true) →
    (∀ (j : Nat) (o : Oper), l[j]? = some o → (List.replicate k 0 ++ cs)[j]? = some 2 → o.guard = none) → (∀ a, R [] a w → Q a w) →
    (∀ (l : List Oper) (i : Nat) (a : Act), (∀ j c, cs[j]? = some c → cl (i + j) = c) → (∀ (j : Nat) (o : Oper), l[j]? = some o → cs[j]? = some 0 → isPlain o = true) →
      (∀ (j : Nat) (o : Oper), l[j]? = some o → cs[j]? = some 2 → o.guard = none) → R l a w → wpLexM P E S ops cl Q i l a w) →
    wpQuiet P ops C (fun a2 => R (l.drop k) a2 w) (l.take k) a → wpLexM P E S ops cl Q i l a w := by
  induction k with
  | zero =>
    intro l i a w hcl hpl hgu _ hR hq
    simp only [List.take_zero, List.drop_zero, List.replicate_zero, List.nil_append] at *
    exact hR l i a hcl hpl hgu hq
  | succ k ih =>
    intro l i a w hcl hpl hgu hnil hR hq
    cases l with
    | nil =>
      simp only [List.take_nil, List.drop_nil] at hq
      exact hnil _ hq
    | cons o' l =>
      simp only [List.take_succ_cons, List.drop_succ_cons] at hq
      have hc0 : cl i = 0 := hcl 0 0 (by simp [List.replicate_succ])
      have hp0 : isPlain o' = true := hpl 0 o' rfl (by simp [List.replicate_succ])
      have hcl' : ∀ j c, (List.replicate k 0 ++ cs)[j]? = some c → cl (i + 1 + j) = c := fun j c hj => by
        have := hcl (j + 1) c (by simpa [List.replicate_succ] using hj)
        rw [← this]; congr 1; omega
      have hpl' : ∀ (j : Nat) (o' : Oper), l[j]? = some o' → (List.replicate k 0 ++ cs)[j]? = some 0 → isPlain o' = true := fun j o' hj h2 => hpl (j + 1) o' (by simpa using hj) (by simpa [List.replicate_succ] using h2)
      have hgu' : ∀ (j : Nat) (o' : Oper), l[j]? = some o' → (List.replicate k 0 ++ cs)[j]? = some 2 → o'.guard = none := fun j o' hj h2 => hgu (j + 1) o' (by simpa using hj) (by simpa [List.replicate_succ] using h2)
      unfold wpLexM stepM
      unfold wpQuiet at hq
      split at hq
      · rename_i hw
        rw [if_pos hw, hc0]
        obtain ⟨u, hu, hn⟩ := hq
        exact ⟨u, free_of_quiet hSC hp0 hu, ih l _ _ w hcl' hpl' hgu' hnil hR hn⟩
      · rename_i hw
        rw [if_neg hw]
        exact ih l _ _ w hcl' hpl' hgu' hnil hR hq

theorem lex_of_tl {cl : Nat → Nat} {Q : Act → World → Prop} (hSC : ∀ W, S W → C W) : ∀ (ks : List Nat) (l : List Oper) (i : Nat) (a : Act) (w : World), (∀ j c, (tlClass ks)[j]? = some c → cl (i + j) = c) →
    (∀ (j : Nat) (o : Oper), l[j]? = some o → (tlClass ks)[j]? = some 0 → isPlain o = true) → (∀ (j : Nat) (o : Oper), l[j]? = some o → (tlClass ks)[j]? = some 2 → o.guard = none) →
    wpTl P E S C ops Q ks l a w → wpLexM P E S ops cl Q i l a w
  | [], [], _, _, _, _, _, _, h => h
  | [], _ :: _, _, _, _, _, _, _, h => h.elim
  | _ :: _, [], _, _, _, _, _, _, h => h.elim
  | k :: ks, o :: l, i, a, w, hcl, hpl, hg, hq => by
    have h0 : cl i = 2 := hcl 0 2 rfl
    have hg0 : o.guard = none := hg 0 o rfl rfl
    unfold wpLexM stepM
    rw [if_pos (by simp [Region.wanted, hg0]), h0]
    refine stepW_mono (fun v w' _ hk => ?_) hq
    have hcl' : ∀ j c, (List.replicate k 0 ++ tlClass ks)[j]? = some c → cl (i + 1 + j) = c := fun j c hj => by
      have := hcl (j + 1) c (by simpa [tlClass] using hj)
      rw [← this]; congr 1; omega
    have hpl' : ∀ (j : Nat) (o' : Oper), l[j]? = some o' → (List.replicate k 0 ++ tlClass ks)[j]? = some 0 → isPlain o' = true := fun j o' hj h2 => hpl (j + 1) o' (by simpa using hj) (by simpa [tlClass] using h2)
    have hgu' : ∀ (j : Nat) (o' : Oper), l[j]? = some o' → (List.replicate k 0 ++ tlClass ks)[j]? = some 2 → o'.guard = none := fun j o' hj h2 => hg (j + 1) o' (by simpa using hj) (by simpa [tlClass] using h2)
    refine lex_of_free (R := fun l a w => wpTl P E S C ops Q ks l a w) hSC k l (i + 1) _ w' hcl' hpl' hgu' (fun a h => ?_) (fun l i a h1 h2 h3 h4 => lex_of_tl hSC ks l i a w' h1 h2 h3 h4) hk
    cases ks with
    | nil => exact h
    | cons k' ks' => exact h.elim

theorem lex_of_mix {cl : Nat → Nat} {Q : Act → World → Prop} (hSC : ∀ W, S W → C W) (ks : List Nat) : ∀ (n : Nat) (l : List Oper) (i : Nat) (a : Act) (w : World), (∀ j c, (clsOf l n ks)[j]? = some c → cl (i + j) = c) →
    (∀ (j : Nat) (o : Oper), l[j]? = some o → n ≤ j → (clsOf l n ks)[j]? = some 0 → isPlain o = true) → (∀ (j : Nat) (o : Oper), l[j]? = some o → (clsOf l n ks)[j]? = some 2 → o.guard = none) → n ≤ l.length → E w { w with drawn := w.drawn + 1 } →
    wpQuiet P ops (E w) (fun a' => wpTl P E S C ops Q ks (l.drop n) a' w) (l.take n) a → S { w with drawn := w.drawn + 1 } → wpLexM P E S ops cl Q i l a w
  | 0, l, i, a, w, hcl, hpl, hgu, _, _, h, _ => by
    simp only [List.take_zero, List.drop_zero] at h
    exact lex_of_tl hSC ks l i a w (by simpa [clsOf] using hcl) (fun j o hj h2 => hpl j o hj (Nat.zero_le _) (by simpa [clsOf] using h2)) (fun j o hj h2 => hgu j o hj (by simpa [clsOf] using h2)) h
  | n + 1, [], _, _, _, _, _, _, hn, _, _, _ => by simp at hn
  | n + 1, o :: l, i, a, w, hcl, hpl, hgu, hn, hE, h, hS => by
    simp only [List.take_succ_cons, List.drop_succ_cons] at h
    have hc0 : cl i = if isMove o then 0 else 1 := hcl 0 _ (by simp [clsOf])
    have hcl' : ∀ j c, (clsOf l n ks)[j]? = some c → cl (i + 1 + j) = c := fun j c hj => by
      have := hcl (j + 1) c (by simpa [clsOf] using hj)
      rw [← this]; congr 1; omega
    have hpl' : ∀ (j : Nat) (o : Oper), l[j]? = some o → n ≤ j → (clsOf l n ks)[j]? = some 0 → isPlain o = true := fun j o' hj hnj h2 => hpl (j + 1) o' (by simpa using hj) (by omega) (by simpa [clsOf] using h2)
    have hgu' : ∀ (j : Nat) (o : Oper), l[j]? = some o → (clsOf l n ks)[j]? = some 2 → o.guard = none := fun j o' hj h2 => hgu (j + 1) o' (by simpa using hj) (by simpa [clsOf] using h2)
    unfold wpLexM stepM
    unfold wpQuiet at h
    split at h
    · rename_i hw
      obtain ⟨u, hu, hnx⟩ := h
      have hrest := lex_of_mix hSC ks n l (i + 1) _ w hcl' hpl' hgu' (by simpa using hn) hE hnx hS
      rw [if_pos hw, hc0]
      by_cases hmv : isMove o = true
      · rw [if_pos hmv]
        obtain ⟨v, hf⟩ := move_free (P := P) (S := S) hmv a
        have h1 := hu _ hE
        have : u = v := by
          have h2 := hf { w with drawn := w.drawn + 1 } hS
          unfold Oper.quietAt at h1
          rcases h2 with h2 | ⟨h2, h3⟩ <;> rw [h2] at h1
          · exact h1.2.symm
          · exact h1.2.trans h3.symm
        subst this
        exact ⟨_, hf, hrest⟩
      · rw [if_neg hmv]
        exact ⟨u, fun W hW => does_of_quiet (hu _ hW) hW, hrest⟩
    · rename_i hw
      rw [if_neg hw]
      exact lex_of_mix hSC ks n l (i + 1) _ w hcl' hpl' hgu' (by simpa using hn) hE h hS

/-! ### The check, cheap for the kernel -/
def bitO : Option Nat → Nat
  | some d => 2 ^ d
  | none => 0
def bitsL : List Nat → Nat
  | [] => 0
  | t :: l => 2 ^ t ||| bitsL l
def edgeM (acc : List Nat) : List Edge → Nat
  | [] => 0
  | e :: es => match Region.binds .any e with
    | true => 2 ^ e.on ||| (acc.getD e.on 0 ||| edgeM acc es)
    | false => edgeM acc es
def edgesOk (k : Nat) : List Edge → Bool
  | [] => true
  | e :: es => (!Region.binds .any e || Nat.blt e.on k) && edgesOk k es
structure Rec where
  idx : Nat
  use : Nat
  dst : Nat
  cls : Nat
def pairOk (A U D c : Nat) (r : Rec) : Bool :=
  Nat.testBit A r.idx || (Nat.beq (r.dst &&& (U ||| D)) 0 && (Nat.beq (r.use &&& D) 0 && comm r.cls c))
def chk (ops : Array Oper) : (k : Nat) → (acc : List Nat) → (seen : List Rec) → List Oper → List Nat → Bool
  | _, _, _, [], [] => true
  | k, acc, seen, o :: l, c :: cs =>
    notSelect o && (edgesOk k o.after.toList && (seen.all (pairOk (edgeM acc o.after.toList) (bitsL (o.looksAt ops)) (bitO o.dst) c) &&
      chk ops (k + 1) (acc ++ [edgeM acc o.after.toList]) (⟨k, bitsL (o.looksAt ops), bitO o.dst, c⟩ :: seen) l cs))
  | _, _, _, _, _ => false
def plainOk : List Oper → List Nat → Bool
  | [], _ => true
  | _ :: _, [] => true
  | o :: l, c :: cs => (match c with | 0 => isPlain o | _ => o.guard.isNone) && plainOk l cs
def mixB (l : List Oper) (n : Nat) (ks : List Nat) : Bool :=
  Nat.ble n l.length && (plainOk (l.drop n) (tlClass ks) && chk l.toArray 0 [] [] l (clsOf l n ks))
def freeB (l : List Oper) (n : Nat) (ks : List Nat) : Bool := plainOk l (clsFree n ks) && chk l.toArray 0 [] [] l (clsFree n ks)

theorem testBit_bitsL {t : Nat} : ∀ {l : List Nat}, t ∈ l → (bitsL l).testBit t = true
  | [], h => by cases h
  | u :: l, h => by
    simp only [bitsL, Nat.testBit_or, Bool.or_eq_true]
    rcases List.mem_cons.1 h with h | h
    · subst h; left; simp [Nat.testBit_two_pow]
    · right; exact testBit_bitsL h

theorem no_both {x y t : Nat} (h : x &&& y = 0) (hx : x.testBit t = true) (hy : y.testBit t = true) : False := by
  have : (x &&& y).testBit t = true := by rw [Nat.testBit_and, hx, hy]; rfl
  rw [h] at this
  simp at this

theorem apart_of_bits {oi oj : Oper} (h1 : bitO oi.dst &&& (bitsL (oj.looksAt ops) ||| bitO oj.dst) = 0) (h2 : bitsL (oi.looksAt ops) &&& bitO oj.dst = 0) : oi.apart ops oj = true := by
  unfold Oper.apart
  rw [Bool.and_eq_true]
  constructor
  · cases hd : oi.dst with
    | none => rfl
    | some d =>
      rw [hd] at h1
      simp only [Bool.and_eq_true, Bool.not_eq_true', bne_iff_ne, ne_eq, List.contains_eq_mem, decide_eq_false_iff_not]
      refine ⟨fun hm => no_both h1 (t := d) (by simp [bitO, Nat.testBit_two_pow]) ?_, fun he => no_both h1 (t := d) (by simp [bitO, Nat.testBit_two_pow]) ?_⟩
      · rw [Nat.testBit_or, testBit_bitsL hm]; rfl
      · rw [Nat.testBit_or, he]; simp [bitO, Nat.testBit_two_pow]
  · cases hd : oj.dst with
    | none => rfl
    | some d =>
      rw [hd] at h2
      simp only [Bool.not_eq_true', List.contains_eq_mem, decide_eq_false_iff_not]
      exact fun hm => no_both h2 (t := d) (testBit_bitsL hm) (by simp [bitO, Nat.testBit_two_pow])

theorem edgeM_spec {acc : List Nat} {k : Nat} {o : Oper} (ho : ops[k]? = some o) (hacc : ∀ i b, (acc.getD i 0).testBit b = true → anc ops i b) :
    ∀ (es : List Edge), (∀ e ∈ es, e ∈ o.after) → ∀ b, (edgeM acc es).testBit b = true → anc ops k b
  | [], _, b, h => by simp [edgeM] at h
  | e :: es, hm, b, h => by
    have ih := edgeM_spec ho hacc es (fun e he => hm e (List.mem_cons_of_mem _ he))
    unfold edgeM at h
    split at h
    · rename_i hb
      have hd : dep ops k e.on := ⟨o, ho, e, hm e List.mem_cons_self, hb, rfl⟩
      simp only [Nat.testBit_or, Bool.or_eq_true] at h
      rcases h with h | h | h
      · rw [Nat.testBit_two_pow] at h
        simp at h
        subst h
        exact .base hd
      · exact .step hd (hacc _ _ h)
      · exact ih b h
    · exact ih b h

theorem edgesOk_spec {k : Nat} : ∀ {es : List Edge}, edgesOk k es = true → ∀ e ∈ es, Region.binds .any e = true → e.on < k
  | [], _, e, he, _ => by cases he
  | x :: es, h, e, he, hb => by
    simp only [edgesOk, Bool.and_eq_true, Bool.or_eq_true, Bool.not_eq_true'] at h
    rcases List.mem_cons.1 he with he | he
    · subst he
      rcases h.1 with h1 | h1
      · rw [hb] at h1; cases h1
      · simpa [Nat.blt_eq] using h1
    · exact edgesOk_spec h.2 e he hb

theorem chk_spec {cl : Nat → Nat} : ∀ (l : List Oper) (cs : List Nat) (k : Nat) (acc : List Nat) (seen : List Rec), chk ops k acc seen l cs = true → (∀ j, l[j]? = ops[k + j]?) →
    (∀ j c, cs[j]? = some c → cl (k + j) = c) → acc.length = k → (∀ i b, (acc.getD i 0).testBit b = true → anc ops i b) →
    (∀ i o, i < k → ops[i]? = some o → (⟨i, bitsL (o.looksAt ops), bitO o.dst, cl i⟩ : Rec) ∈ seen) →
    ∀ j o, k ≤ j → ops[j]? = some o → notSelect o = true ∧ (∀ i, dep ops j i → i < j) ∧ ∀ i oi, i < j → ops[i]? = some oi → anc ops j i ∨ (oi.apart ops o = true ∧ comm (cl i) (cl j) = true)
  | [], _, k, _, _, _, hl, _, _, _, _, j, o, hkj, hj => by
    have := hl (j - k)
    rw [show k + (j - k) = j by omega, hj] at this
    simp at this
  | x :: l, [], _, _, _, h, _, _, _, _, _, _, _, _, _ => by simp [chk] at h
  | x :: l, c :: cs, k, acc, seen, h, hl, hcl, hlen, hacc, hseen, j, o, hkj, hj => by
    simp only [chk, Bool.and_eq_true] at h
    obtain ⟨hns, hed, hall, hrest⟩ := h
    have hx : ops[k]? = some x := by simpa using (hl 0).symm
    have hck : cl k = c := hcl 0 c rfl
    have hA := edgeM_spec hx hacc x.after.toList (fun e he => by simpa using he)
    by_cases hjk : j = k
    · subst hjk
      rw [hx] at hj
      obtain rfl := Option.some.inj hj
      refine ⟨hns, ?_, ?_⟩
      · rintro i ⟨oj, hoj, e, he, hb, rfl⟩
        rw [hx] at hoj
        obtain rfl := Option.some.inj hoj
        exact edgesOk_spec hed e (by simpa using he) hb
      · intro i oi hij hoi
        have hp := List.all_eq_true.1 hall _ (hseen i oi hij hoi)
        simp only [pairOk, Bool.or_eq_true, Bool.and_eq_true, Nat.beq_eq] at hp
        rcases hp with hp | ⟨h1, h2, h3⟩
        · exact .inl (hA i hp)
        · exact .inr ⟨apart_of_bits h1 h2, by rw [hck]; exact h3⟩
    · refine chk_spec l cs (k + 1) _ _ hrest (fun j => by have := hl (j + 1); simpa [Nat.add_assoc, Nat.add_comm 1 j] using this)
        (fun j c hj => by have := hcl (j + 1) c (by simpa using hj); rw [← this]; congr 1; omega) (by simp [hlen]) ?_ ?_ j o (by omega) hj
      · intro i b hb
        by_cases hi : i < k
        · rw [List.getD_eq_getElem?_getD, List.getElem?_append_left (by omega), ← List.getD_eq_getElem?_getD] at hb
          exact hacc i b hb
        · by_cases hik : i = k
          · subst hik
            rw [List.getD_eq_getElem?_getD, List.getElem?_append_right (by omega)] at hb
            simp [hlen] at hb
            exact hA b hb
          · rw [List.getD_eq_getElem?_getD, List.getElem?_eq_none (by simp; omega)] at hb
            simp at hb
      · intro i oi hi hoi
        by_cases hik : i = k
        · subst hik
          rw [hx] at hoi
          obtain rfl := Option.some.inj hoi
          rw [hck]
          exact List.mem_cons_self
        · exact List.mem_cons_of_mem _ (hseen i oi (by omega) hoi)

theorem plainOk_spec : ∀ {l : List Oper} {cs : List Nat}, plainOk l cs = true → ∀ (j : Nat) (o : Oper), l[j]? = some o → (cs[j]? = some 0 → isPlain o = true) ∧ (cs[j]? = some 2 → o.guard = none)
  | [], _, _, j, o, hj => by simp at hj
  | _ :: _, [], _, j, o, _ => by simp
  | x :: l, c :: cs, h, j, o, hj => by
    simp only [plainOk, Bool.and_eq_true] at h
    cases j with
    | zero =>
      simp at hj
      subst hj
      constructor
      · intro hc
        simp at hc
        subst hc
        exact h.1
      · intro hc
        simp at hc
        subst hc
        simpa using h.1
    | succ j => simpa using plainOk_spec h.2 j o (by simpa using hj)

/-- **A region whose order is open, walked once.** n: how many operations stand ahead of the first write; ks: behind each write, how many plain steps follow; these must read the same in every world of S. -/
theorem wp_region_mix {id : Nat} {l : List Oper} {Q : Exit → Act → World → Prop} {a : Act} {w : World} (n : Nat) (ks : List Nat) (hm : P.follows .mixedOrders = true) (hB : mixB l n ks = true)
    (E : World → World → Prop) (S C : World → Prop) (hSC : ∀ W, S W → C W) (hE0 : ∀ w, E w w) (hES : ∀ w W, S w → E w W → S W) (hE : E w { w with drawn := w.drawn + 1 }) (hs : S w)
    (h : wpQuiet P l.toArray (E w) (fun a' => wpTl P E S C l.toArray (fun a w' => ∀ W, E w' W → Q .normal a W) ks (l.drop n) a' w) (l.take n) a) :
    (Code.region id l.toArray true).wp P Q a w := by
  simp only [mixB, Bool.and_eq_true, Nat.ble_eq] at hB
  obtain ⟨hn, hpl, hch⟩ := hB
  have hlenc : ((l.take n).map (fun o => if isMove o then 0 else 1)).length = n := by simp [hn]
  let cl : Nat → Nat := fun j => (clsOf l n ks).getD j 0
  have hcl : ∀ j c, (clsOf l n ks)[j]? = some c → cl (0 + j) = c := fun j c hj => by
    show (clsOf l n ks).getD (0 + j) 0 = c
    rw [Nat.zero_add, List.getD_eq_getElem?_getD, hj]; rfl
  have hc := chk_spec (ops := l.toArray) (cl := cl) l _ 0 [] [] hch (fun j => by simp) hcl rfl (fun i b hb => by simp at hb) (fun i o hi _ => by omega)
  have htl : ∀ (j : Nat) (o : Oper), l[j]? = some o → n ≤ j → (l.drop n)[j - n]? = some o ∧ (clsOf l n ks)[j]? = (tlClass ks)[j - n]? := fun j o hj hnj => by
    constructor
    · rw [List.getElem?_drop, show n + (j - n) = j by omega]; exact hj
    · unfold clsOf; rw [List.getElem?_append_right (by omega), hlenc]
  refine wp_region_lexM hm (cl := cl) (fun i j oi oj hi hj hij => (hc j oj (Nat.zero_le _) hj).2.2 i oi hij hi) (fun j i hd => ?_) (fun j o cs b ho => ?_) hE0 hES hE hs ?_
  · obtain ⟨oj, hoj, r⟩ := hd
    exact (hc j oj (Nat.zero_le _) hoj).2.1 i ⟨oj, hoj, r⟩
  · have := (hc j o (Nat.zero_le _) ho).1
    intro he
    unfold notSelect at this
    rw [he] at this
    cases this
  · refine lex_of_mix hSC ks n l 0 a w hcl (fun j o hj hnj h0 => ?_) (fun j o hj h2 => ?_) hn hE h (hES _ _ hs hE)
    · obtain ⟨h1, h3⟩ := htl j o hj hnj
      exact (plainOk_spec hpl _ o h1).1 (by rw [← h3]; exact h0)
    · by_cases hnj : n ≤ j
      · obtain ⟨h1, h3⟩ := htl j o hj hnj
        exact (plainOk_spec hpl _ o h1).2 (by rw [← h3]; exact h2)
      · exfalso
        unfold clsOf at h2
        rw [List.getElem?_append_left (by omega)] at h2
        simp only [List.getElem?_map, List.getElem?_take] at h2
        rw [if_pos (by omega), hj] at h2
        simp at h2
        split at h2 <;> simp at h2

/-- The same, where all that stands ahead of the first write reads the same in every world of S. -/
theorem wp_region_free {id : Nat} {l : List Oper} {Q : Exit → Act → World → Prop} {a : Act} {w : World} (n : Nat) (ks : List Nat) (hm : P.follows .mixedOrders = true) (hB : freeB l n ks = true)
    (E : World → World → Prop) (S C : World → Prop) (hSC : ∀ W, S W → C W) (hE0 : ∀ w, E w w) (hES : ∀ w W, S w → E w W → S W) (hE : E w { w with drawn := w.drawn + 1 }) (hs : S w)
    (h : wpQuiet P l.toArray C (fun a' => wpTl P E S C l.toArray (fun a w' => ∀ W, E w' W → Q .normal a W) ks (l.drop n) a' w) (l.take n) a) :
    (Code.region id l.toArray true).wp P Q a w := by
  simp only [freeB, Bool.and_eq_true] at hB
  obtain ⟨hpl, hch⟩ := hB
  let cl : Nat → Nat := fun j => (clsFree n ks).getD j 0
  have hcl : ∀ j c, (clsFree n ks)[j]? = some c → cl (0 + j) = c := fun j c hj => by
    show (clsFree n ks).getD (0 + j) 0 = c
    rw [Nat.zero_add, List.getD_eq_getElem?_getD, hj]; rfl
  have hc := chk_spec (ops := l.toArray) (cl := cl) l _ 0 [] [] hch (fun j => by simp) hcl rfl (fun i b hb => by simp at hb) (fun i o hi _ => by omega)
  refine wp_region_lexM hm (cl := cl) (fun i j oi oj hi hj hij => (hc j oj (Nat.zero_le _) hj).2.2 i oi hij hi) (fun j i hd => ?_) (fun j o cs b ho => ?_) hE0 hES hE hs ?_
  · obtain ⟨oj, hoj, r⟩ := hd
    exact (hc j oj (Nat.zero_le _) hoj).2.1 i ⟨oj, hoj, r⟩
  · have := (hc j o (Nat.zero_le _) ho).1
    intro he
    unfold notSelect at this
    rw [he] at this
    cases this
  · refine lex_of_free (R := fun l' a w => wpTl P E S C l.toArray (fun a w' => ∀ W, E w' W → Q .normal a W) ks l' a w) (cs := tlClass ks) hSC n l 0 a w hcl (fun j o hj h0 => (plainOk_spec hpl j o hj).1 h0) (fun j o hj h2 => (plainOk_spec hpl j o hj).2 h2) (fun a h => ?_) (fun l' i a h1 h2 h3 h4 => lex_of_tl hSC ks l' i a w h1 h2 h3 h4) h
    cases ks with
    | nil => exact h
    | cons k' ks' => exact h.elim

/-- More draws. -/
def Dr (w w' : World) : Prop := ∃ n, w' = w.drewN n
/-- New blocks and draws: w grown by what nobody asks about. -/
structure Xt where
  objs : Array Obj
  drawn : Nat
instance : Nonempty Xt := ⟨⟨#[], 0⟩⟩
end
end Go.Mix
namespace Go
open Go.Mix
def World.ext (w : World) (x : Xt) : World := { w with heap := w.heap ++ x.1, drawn := x.2 }
end Go
namespace Go.Mix
section
variable {P : Program} {ops : Array Oper} {E : World → World → Prop} {S C : World → Prop}
def Ex (w w' : World) : Prop := ∃ x, w' = w.ext x
theorem Dr.refl (w : World) : Dr w w := ⟨0, rfl⟩
theorem Ex.refl (w : World) : Ex w w := ⟨⟨#[], w.drawn⟩, by simp [World.ext]⟩
theorem Ex.trans {a b c : World} (h : Ex a b) (k : Ex b c) : Ex a c := by
  obtain ⟨x, rfl⟩ := h
  obtain ⟨y, rfl⟩ := k
  exact ⟨⟨x.1 ++ y.1, y.2⟩, by simp [World.ext]⟩
theorem Ex.of_dr {a b : World} (h : Dr a b) : Ex a b := by
  obtain ⟨n, rfl⟩ := h
  exact ⟨⟨#[], a.drawn + n⟩, by simp [World.ext, World.drewN]⟩

/-- Reads alone, draws alone. -/
theorem wp_region_dr {id : Nat} {l : List Oper} {Q : Exit → Act → World → Prop} {a : Act} {w : World} (hm : P.follows .mixedOrders = true) (hB : mixB l l.length [] = true)
    (h : wpQuiet P l.toArray (fun w' => ∃ n, w' = w.drewN n) (fun a' => ∀ n, Q .normal a' (w.drewN n)) l a) :
    (Code.region id l.toArray true).wp P Q a w := by
  refine wp_region_mix l.length [] hm hB Dr (fun _ => True) (fun _ => True) (fun _ h => h) Dr.refl (fun _ _ _ _ => trivial) ⟨1, rfl⟩ trivial ?_
  rw [List.take_length, List.drop_length]
  have : (fun a' => wpTl P Dr (fun _ => True) (fun _ => True) l.toArray (fun a w' => ∀ W, Dr w' W → Q .normal a W) [] [] a' w) = (fun a' => ∀ n, Q .normal a' (w.drewN n)) := by
    funext a'
    simp only [wpTl, Dr, forall_exists_index, eq_iff_iff]
    exact ⟨fun h n => h _ n rfl, fun h W n hW => hW ▸ h n⟩
  rw [this]
  exact h
/-- Reads alone; calls may make memory. -/
theorem wp_region_ex {id : Nat} {l : List Oper} {Q : Exit → Act → World → Prop} {a : Act} {w : World} (hm : P.follows .mixedOrders = true) (hB : mixB l l.length [] = true)
    (h : wpQuiet P l.toArray (fun w' => ∃ x, w' = w.ext x) (fun a' => ∀ x, Q .normal a' (w.ext x)) l a) :
    (Code.region id l.toArray true).wp P Q a w := by
  refine wp_region_mix l.length [] hm hB Ex (fun _ => True) (fun _ => True) (fun _ h => h) Ex.refl (fun _ _ _ _ => trivial) ⟨⟨#[], w.drawn + 1⟩, by simp [World.ext]⟩ trivial ?_
  rw [List.take_length, List.drop_length]
  have : (fun a' => wpTl P Ex (fun _ => True) (fun _ => True) l.toArray (fun a w' => ∀ W, Ex w' W → Q .normal a W) [] [] a' w) = (fun a' => ∀ x, Q .normal a' (w.ext x)) := by
    funext a'
    simp only [wpTl, Ex, forall_exists_index, eq_iff_iff]
    exact ⟨fun h n => h _ n rfl, fun h W n hW => hW ▸ h n⟩
  rw [this]
  exact h
/-- Reads, then writes; draws alone. -/
theorem wp_region_drw {id : Nat} {l : List Oper} {Q : Exit → Act → World → Prop} {a : Act} {w : World} (n : Nat) (ks : List Nat) (hm : P.follows .mixedOrders = true) (hB : mixB l n ks = true)
    (h : wpQuiet P l.toArray (fun w' => ∃ n, w' = w.drewN n) (fun a' => wpTl P Dr (fun _ => True) (fun _ => True) l.toArray (fun a w' => ∀ n, Q .normal a (w'.drewN n)) ks (l.drop n) a' w) (l.take n) a) :
    (Code.region id l.toArray true).wp P Q a w := by
  refine wp_region_mix n ks hm hB Dr (fun _ => True) (fun _ => True) (fun _ h => h) Dr.refl (fun _ _ _ _ => trivial) ⟨1, rfl⟩ trivial ?_
  have : (fun a (w' : World) => ∀ W, Dr w' W → Q .normal a W) = (fun a w' => ∀ n, Q .normal a (w'.drewN n)) := by
    funext a' w'
    simp only [Dr, forall_exists_index, eq_iff_iff]
    exact ⟨fun h n => h _ n rfl, fun h W n hW => hW ▸ h n⟩
  rw [this]
  exact h
/-- Reads of what the region itself never turns, beside writes and calls that make memory alone. -/
theorem wp_region_new {id : Nat} {l : List Oper} {Q : Exit → Act → World → Prop} {a : Act} {w : World} (n : Nat) (ks : List Nat) (hm : P.follows .mixedOrders = true) (hB : freeB l n ks = true)
    (h : wpQuiet P l.toArray (fun W => ∃ x, W = w.ext x) (fun a' => wpTl P Dr (Ex w) (fun W => ∃ x, W = w.ext x) l.toArray (fun a w' => ∀ n, Q .normal a (w'.drewN n)) ks (l.drop n) a' w) (l.take n) a) :
    (Code.region id l.toArray true).wp P Q a w := by
  refine wp_region_free n ks hm hB Dr (Ex w) (fun W => ∃ x, W = w.ext x) (fun _ h => h) Dr.refl (fun _ _ h k => h.trans (.of_dr k)) ⟨1, rfl⟩ (Ex.refl w) ?_
  have : (fun a (w' : World) => ∀ W, Dr w' W → Q .normal a W) = (fun a w' => ∀ n, Q .normal a (w'.drewN n)) := by
    funext a' w'
    simp only [Dr, forall_exists_index, eq_iff_iff]
    exact ⟨fun h n => h _ n rfl, fun h W n hW => hW ▸ h n⟩
  rw [this]
  exact h
/-- One write, what follows behind a variable. -/
theorem wpTl_dr {ops : Array Oper} {Q : Act → World → Prop} {k : Nat} {ks : List Nat} {o : Oper} {l : List Oper} {a : Act} {w : World}
    (h : ∀ n, ∀ K : Value → World → Prop, (∀ v w', S w' → wpQuiet P ops C (fun a2 => wpTl P Dr S C ops Q ks (l.drop k) a2 w') (l.take k) (a.put o.dst v) → K v w') →
      match (execOp a.eval o).run P (w.drewN n) with
      | .ok (.value u) W' => ∃ w', Dr w' W' ∧ S w' ∧ K u w'
      | .ok .skip W' => ∃ w', Dr w' W' ∧ S w' ∧ K undef w'
      | .ok (.enter f args) W' => Calls P f args W' fun e w'' => ∃ v w', e = .returned v ∧ Dr w' w'' ∧ S w' ∧ K v w'
      | _ => False) :
    wpTl P Dr S C ops Q (k :: ks) (o :: l) a w := by
  rintro W ⟨n, rfl⟩
  refine stepW_mono (K := fun v w' => S w' ∧ wpQuiet P ops C (fun a2 => wpTl P Dr S C ops Q ks (l.drop k) a2 w') (l.take k) (a.put o.dst v)) (fun _ _ _ h => h.2) ?_ _ ⟨n, rfl⟩
  rintro W ⟨n, rfl⟩
  exact h n _ (fun v w' h1 h2 => ⟨h1, h2⟩)
end
end Go.Mix
