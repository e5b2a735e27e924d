/- What the queue of Nearby holds, and what is known on the way. -/
import Derived.Test.YtboeldlilkeihaaCol3
import Derived.Test.YtboeldlilkeihaaZScan
set_option linter.unusedSimpArgs false
set_option linter.unusedVariables false
namespace Go.Mix
section
variable {P : Program}
theorem wp_region_exw {id : Nat} {l : List Oper} {Q : Exit → Act → World → Prop} {a : Act} {w : World} (n : Nat) (ks : List Nat) (hm : P.follows .mixedOrders = true) (hB : mixB l n ks = true)
    (h : wpQuiet P l.toArray (fun w' => ∃ x, w' = w.ext x) (fun a' => wpTl P Ex (fun _ => True) (fun _ => True) l.toArray (fun a w' => ∀ x, Q .normal a (w'.ext x)) ks (l.drop n) a' w) (l.take n) a) :
    (Code.region id l.toArray true).wp P Q a w := by
  refine wp_region_mix n ks hm hB Ex (fun _ => True) (fun _ => True) (fun _ h => h) Ex.refl (fun _ _ _ _ => trivial) ⟨⟨#[], w.drawn + 1⟩, by simp [World.ext]⟩ trivial ?_
  have : (fun a (w' : World) => ∀ W, Ex w' W → Q .normal a W) = (fun a w' => ∀ x, Q .normal a (w'.ext x)) := by
    funext a' w'
    simp only [Ex, forall_exists_index, eq_iff_iff]
    exact ⟨fun h n => h _ n rfl, fun h W n hW => hW ▸ h n⟩
  rw [this]
  exact h
variable {S C : World → Prop}
theorem wpTl_ex {ops : Array Oper} {Q : Act → World → Prop} {k : Nat} {ks : List Nat} {o : Oper} {l : List Oper} {a : Act} {w : World}
    (h : ∀ y, ∀ K : Value → World → Prop, (∀ v w', S w' → wpQuiet P ops C (fun a2 => wpTl P Ex S C ops Q ks (l.drop k) a2 w') (l.take k) (a.put o.dst v) → K v w') →
      match (execOp a.eval o).run P (w.ext y) with
      | .ok (.value u) W' => ∃ w', Ex w' W' ∧ S w' ∧ K u w'
      | .ok .skip W' => ∃ w', Ex w' W' ∧ S w' ∧ K undef w'
      | .ok (.enter f args) W' => Calls P f args W' fun e w'' => ∃ v w', e = .returned v ∧ Ex w' w'' ∧ S w' ∧ K v w'
      | _ => False) :
    wpTl P Ex S C ops Q (k :: ks) (o :: l) a w := by
  rintro W ⟨y, rfl⟩
  refine stepW_mono (K := fun v w' => S w' ∧ wpQuiet P ops C (fun a2 => wpTl P Ex S C ops Q ks (l.drop k) a2 w') (l.take k) (a.put o.dst v)) (fun _ _ _ h => h.2) ?_ _ ⟨y, rfl⟩
  rintro W ⟨y, rfl⟩
  exact h y _ (fun v w' h1 h2 => ⟨h1, h2⟩)
end
end Go.Mix
namespace Go.Bx
/-- The least number that is such. -/
theorem least_ex {p : Nat → Prop} (h : ∃ n, p n) : ∃ m, p m ∧ ∀ k, p k → m ≤ k := by
  obtain ⟨n, hn⟩ := h
  induction n using Nat.strongRecOn with
  | _ n ih =>
    by_cases h : ∃ m, m < n ∧ p m
    · obtain ⟨m, hm, hp⟩ := h
      exact ih m hm hp
    · exact ⟨n, hn, fun k hk => Nat.le_of_not_lt fun hl => h ⟨k, hl, hk⟩⟩
open Classical in
noncomputable def leastN (p : Nat → Prop) : Nat := if h : ∃ n, p n then Classical.choose (least_ex h) else 0
theorem leastN_spec {p : Nat → Prop} (h : ∃ n, p n) : p (leastN p) := by
  unfold leastN
  rw [dif_pos h]
  exact (Classical.choose_spec (least_ex h)).1
theorem leastN_le {p : Nat → Prop} {k : Nat} (h : p k) : leastN p ≤ k := by
  have h' : ∃ n, p n := ⟨k, h⟩
  unfold leastN
  rw [dif_pos h']
  exact (Classical.choose_spec (least_ex h')).2 k h
/-- How many nodes and items there are below an entry, with it. -/
def wtE : (h : Nat) → El h → Nat
  | 0, _ => 1
  | h + 1, t => 1 + ((lst t.n t.E).map fun e => wtE h e.2).sum
def wtN (h : Nat) (t : Nde (El h)) : Nat := 1 + ((lst t.n t.E).map fun e => wtE h e.2).sum
theorem len_flat {α β : Type} (f : α → List β) : ∀ (L : List α), (∀ x ∈ L, f x ≠ []) → L.length ≤ (L.flatMap f).length
  | [], _ => by simp
  | x :: L, h => by
    have h1 := len_flat f L fun y hy => h y (List.mem_cons_of_mem _ hy)
    have h2 := List.length_pos_iff.2 (h x (by simp))
    rw [List.flatMap_cons, List.length_append, List.length_cons]
    omega
end Go.Bx
namespace Go.Proofs.Ytboeldlilkeihaa
open Go.RowKit Go.Bx
/-- An entry of the queue in form: an item, or a node; no item below is nearer than it says. -/
def GoodQ (c : Int) (Z : Nat → Prop) (w0 : World) (b : R) (x : QN) : Prop :=
  (x.p = none ∧ x.its = [(x.r, x.v)] ∧ x.d = dst b x.r ∧ x.wt = 1 ∧ x.r.small) ∨
  ∃ (h : Nat) (t : Nde (El h)) (s : Nat → Prop) (q : Nat), x.p = some ⟨q, 0, none⟩ ∧ ElAt c Z w0 (h + 1) (.pointer (some ⟨q, 0, none⟩)) t s ∧ WfN h t ∧ 1 ≤ t.n ∧ x.its = itsN h t ∧ x.wt = wtN h t ∧ x.d < 2 ^ 53 ∧ ∀ e ∈ lst t.n t.E, x.d ≤ dst b e.1
section
variable {c : Int} {Z : Nat → Prop} {w0 : World} {b : R} {x : QN}
theorem GoodQ.le (h : GoodQ c Z w0 b x) : ∀ y ∈ x.its, x.d ≤ dst b y.1 := by
  rcases h with ⟨_, h2, h3, _⟩ | ⟨h, t, s, q, _, _, hw, _, h5, _, _, h8⟩
  · rw [h2]
    intro y hy
    rw [List.mem_singleton.1 hy, h3]
    exact Nat.le_refl _
  · rw [h5]
    intro y hy
    obtain ⟨e, he, hy⟩ := List.mem_flatMap.1 hy
    exact Nat.le_trans (h8 e he) (dst_mono b ((hw.2 e he).bd.1 y.1 (List.mem_map_of_mem hy)))
theorem GoodQ.lt (h : GoodQ c Z w0 b x) (hb : b.small) : x.d < 2 ^ 53 := by
  rcases h with ⟨_, _, h3, _, h5⟩ | ⟨h, t, s, q, _, _, _, _, _, _, h7, _⟩
  · rw [h3]; exact dst_lt hb h5
  · exact h7
theorem its_ne {h : Nat} {r : R} {e : El h} (hw : Wf h r e) : its h r e ≠ [] := fun k => hw.bd.ne (by rw [k]; rfl)
theorem GoodQ.ne (h : GoodQ c Z w0 b x) : x.its ≠ [] := by
  rcases h with ⟨_, h2, _⟩ | ⟨h, t, s, q, _, _, hw, hn, h5, _⟩
  · rw [h2]; simp
  · rw [h5]
    intro k
    have he : t.E 0 ∈ lst t.n t.E := mem_lst.2 ⟨0, by omega, rfl⟩
    obtain ⟨y, hy⟩ := List.exists_mem_of_ne_nil _ (its_ne (hw.2 _ he))
    have : y ∈ itsN h t := List.mem_flatMap.2 ⟨_, he, hy⟩
    rw [k] at this
    cases this
end
/-- The address that a pointer holds. -/
def ptrOf : Value → Option Addr
  | .pointer a => a
  | _ => none
/-- What is pushed for an entry of a leaf, of a branch. -/
def kidL (b : R) (e : R × An 0) : QN := ⟨dst b e.1, e.1, (e.2.t : Int), none, [(e.1, (e.2.t : Int))], 1⟩
def kidB (b : R) {h : Nat} (e : R × An (h + 1)) : QN := ⟨dst b e.1, e.1, 0, ptrOf e.2.v, itsN h e.2.t, wtN h e.2.t⟩
theorem kidL_its (b : R) (n : Nat) (X : Nat → R × An 0) : ((lst n X).map (kidL b)).flatMap QN.its = itsN 0 ⟨n, mp An.t X⟩ := by
  unfold itsN
  rw [lst_mp, List.flatMap_map, List.flatMap_map]
  rfl
theorem kidB_its (b : R) {h : Nat} (n : Nat) (X : Nat → R × An (h + 1)) : ((lst n X).map (kidB b)).flatMap QN.its = itsN (h + 1) ⟨n, mp An.t X⟩ := by
  unfold itsN
  rw [lst_mp, List.flatMap_map, List.flatMap_map]
  rfl
theorem kidL_wt (b : R) (n : Nat) (X : Nat → R × An 0) : wtN 0 ⟨n, mp An.t X⟩ = 1 + (((lst n X).map (kidL b)).map QN.wt).sum := by
  unfold wtN
  rw [lst_mp, List.map_map, List.map_map]
  rfl
theorem kidB_wt (b : R) {h : Nat} (n : Nat) (X : Nat → R × An (h + 1)) : wtN (h + 1) ⟨n, mp An.t X⟩ = 1 + (((lst n X).map (kidB b)).map QN.wt).sum := by
  unfold wtN
  rw [lst_mp, List.map_map, List.map_map]
  rfl
theorem kidL_good {c : Int} {Z : Nat → Prop} {w0 : World} (b : R) {n : Nat} {X : Nat → R × An 0} (hw : WfN 0 ⟨n, mp An.t X⟩) : ∀ x ∈ (lst n X).map (kidL b), GoodQ c Z w0 b x := by
  intro x hx
  obtain ⟨e, he, rfl⟩ := List.mem_map.1 hx
  have h1 : (e.1, e.2.t) ∈ lst n (mp An.t X) := by rw [lst_mp]; exact List.mem_map_of_mem he
  exact .inl ⟨rfl, rfl, rfl, rfl, (hw.2 _ h1).small⟩
theorem kidB_good {c : Int} {Z : Nat → Prop} {w0 : World} (b : R) (hb : b.small) {h : Nat} {n : Nat} {X : Nat → R × An (h + 1)} (hw : WfN (h + 1) ⟨n, mp An.t X⟩) (hE : ∀ e ∈ lst n X, ElAt c Z w0 (h + 1) e.2.v e.2.t e.2.s) : ∀ x ∈ (lst n X).map (kidB b), GoodQ c Z w0 b x := by
  intro x hx
  obtain ⟨e, he, rfl⟩ := List.mem_map.1 hx
  have h1 : (e.1, e.2.t) ∈ lst n (mp An.t X) := by rw [lst_mp]; exact List.mem_map_of_mem he
  have hk := hw.2 _ h1
  obtain ⟨k1, k2, k3⟩ := Wf_succ.1 hk
  have k1 : 1 ≤ e.2.t.n := k1
  have k2 : Bd e.1 ((itsN h e.2.t).map (·.1)) := k2
  have k3 : WfN h e.2.t := k3
  obtain ⟨p, hp⟩ := (hE e he).ptr
  refine .inr ⟨h, e.2.t, e.2.s, p, by show ptrOf e.2.v = _; rw [hp]; rfl, by rw [← hp]; exact hE e he, k3, k1, rfl, rfl, dst_lt hb hk.small, fun e' he' => ?_⟩
  refine dst_mono b ?_
  -- the box of a child's entry lies in the child's box
  have hb' := (k3.2 e' he').bd
  obtain ⟨g0, ⟨s0, m0, e0⟩, ⟨s1, m1, e1⟩, ⟨s2, m2, e2⟩, s3, m3, e3⟩ := hb'
  have up : ∀ s ∈ (its h e'.1 e'.2).map (·.1), s ∈ (itsN h e.2.t).map (·.1) := fun s hs => by
    obtain ⟨y, hy, rfl⟩ := List.mem_map.1 hs
    exact List.mem_map_of_mem (List.mem_flatMap.2 ⟨e', he', hy⟩)
  have q0 := k2.1 s0 (up s0 m0)
  have q1 := k2.1 s1 (up s1 m1)
  have q2 := k2.1 s2 (up s2 m2)
  have q3 := k2.1 s3 (up s3 m3)
  omega
/-- What holds between two rounds of Nearby. -/
structure NbSt (c : Int) (Z : Nat → Prop) (w0 : World) (base pb pd pf pn n Bb bq Bq : Nat) (b : R) (L : List (R × Int)) (wr : World) (Q : List QN) (O : List ((R × Int) × Nat)) : Prop where
  q : QAt wr bq Bq Q
  hp : IsHeap QN.d Q
  gd : ∀ x ∈ Q, GoodQ c Z w0 b x
  co : Coll3 wr base pb pd pf O
  nn : wr.heap[pn]? = some (.cells #[.int .i64 (n : Int)] 3 (0, 0))
  bb : wr.heap[Bb]? = some (.cells (boxV b).toArray 71 (0, 0))
  nr : Near (dst b) O (Q.flatMap QN.its) L
  le : ∀ o ∈ O, ∀ x ∈ Q, o.2 ≤ x.d
  on : O.length ≤ n
  ex : Mix.Ex w0 wr
theorem NbSt.len {c : Int} {Z : Nat → Prop} {w0 : World} {base pb pd pf pn n Bb bq Bq : Nat} {b : R} {L : List (R × Int)} {wr : World} {Q : List QN} {O : List ((R × Int) × Nat)} (h : NbSt c Z w0 base pb pd pf pn n Bb bq Bq b L wr Q O) : O.length + Q.length ≤ L.length := by
  have h1 := len_flat QN.its Q fun x hx => (h.gd x hx).ne
  have h2 := h.nr.perm.length_eq
  rw [List.length_append, List.length_map] at h2
  omega
/-- An item is told. -/
theorem near_tell {c : Int} {Z : Nat → Prop} {w0 : World} {b : R} {L : List (R × Int)} {Q Q' : List QN} {O : List ((R × Int) × Nat)} {x : QN} (h : Near (dst b) O (Q.flatMap QN.its) L) (hp : (x :: Q').Perm Q) (hm : ∀ y ∈ Q', x.d ≤ y.d) (hg : ∀ y ∈ Q, GoodQ c Z w0 b y) (hi : x.its = [(x.r, x.v)]) (hd : x.d = dst b x.r) :
    Near (dst b) (O ++ [((x.r, x.v), x.d)]) (Q'.flatMap QN.its) L := by
  have h1 : (Q.flatMap QN.its).Perm ((x.r, x.v) :: Q'.flatMap QN.its) := by
    have := (hp.flatMap_right (f := QN.its)).symm
    rw [List.flatMap_cons, hi] at this
    exact this
  have h2 := h.perm_rest h1.symm
  rw [hd]
  refine h2.more fun y hy => ?_
  obtain ⟨q, hq, hy⟩ := List.mem_flatMap.1 hy
  have h3 := (hg q (hp.mem_iff.1 (List.mem_cons_of_mem _ hq))).le y hy
  have h4 := hm q hq
  rw [hd] at h4
  exact Nat.le_trans h4 h3
end Go.Proofs.Ytboeldlilkeihaa
