/- The contract of 'compare'. -/
import Derived.Test.YtboeldlilkeihaaInsZ
import Derived.Test.YtboeldlilkeihaaStageT
import Derived.LaidEql
set_option linter.unusedSimpArgs false
set_option linter.unusedVariables false
namespace Go.Proofs.Ytboeldlilkeihaa
open Go.RowKit Go.Bx
/-- Two whole numbers as interface values. -/
theorem eq_any_int (w : World) (a b : Int) : (binOp .eql 20 (.iface 3 (.int .i64 a)) (.iface 3 (.int .i64 b))).run Try.prog w = .ok (.bool (decide (a = b))) w := by
  obtain ⟨i, hi, hc⟩ : ∃ i, Try.prog.info? 3 = some i ∧ i.comparable = true := by
    have h : (Try.prog.info? 3).map (·.comparable) = some true := by kernel_rfl
    cases hh : Try.prog.info? 3 with
    | none => rw [hh] at h; cases h
    | some i => rw [hh] at h; exact ⟨i, rfl, Option.some.inj h⟩
  have h1 : ∀ d, (Op.equalIn (d + 2) 20 (.iface 3 (.int .i64 a)) (.iface 3 (.int .i64 b))).run Try.prog w = .ok (a == b) w := fun d => by
    simp [Op.equalIn, run_underlying Try.underlying20, run_underlying Try.underlying3, typeInfo, hi, hc]
  simp only [binOp]
  simp [Op.equal, Op.maxDepth, h1 9998]
  by_cases e : a = b <;> simp [e]
theorem compare_c (a b : Int) (w : World) : Calls Try.prog 105 #[.int .i64 a, .int .i64 b] w fun e w' => e = .returned (.bool (decide (a = b))) ∧ w' = w := by
  have he := fun w => eq_any_int w a b
  go_enter Try.func105, Try.ntmps105
  go_wp2
  go_ret
  exact ⟨rfl, rfl⟩
/-- The list of nodes to be put in again is nil. -/
def ReNil (w : World) (rI : Nat) : Prop := w.heap[rI]? = some (.cells #[.slice none 0 0] 105 (0, 0))
def ptrV (p : Nat) : List Value := [.pointer (some ⟨p, 0, none⟩)]
/-- It holds nodes without entries: some of s0, or new ones; its array is none of sx. -/
def ReAt (w : World) (base rI : Nat) (s0 sx : Nat → Prop) (m : Nat) : Prop :=
  ∃ (v : Value) (L : List Nat), L.length ≤ m ∧ w.heap[rI]? = some (.cells #[v] 105 (0, 0)) ∧ w.Row base 92 1 ptrV v L ∧ (∀ p ∈ L, ∃ N : Nd, NodeAt w p N ∧ N.cnt = 0 ∧ (s0 p ∨ base ≤ p)) ∧ ∀ k, v.ownBlock = some k → ¬ sx k
theorem ReNil.at_ {w : World} {rI : Nat} (h : ReNil w rI) (base : Nat) (s0 sx : Nat → Prop) (m : Nat) : ReAt w base rI s0 sx m := ⟨_, [], Nat.zero_le _, h, .nil (fun _ => rfl), fun p hp => (by cases hp), fun k hk => (by cases hk)⟩
theorem ReNil.chg {w w' : World} {rI : Nat} {S : Nat → Prop} (h : ReNil w rI) (hc : Chg S w w') (hr : ¬ S rI) : ReNil w' rI := by
  unfold ReNil at *
  rw [hc.block _ (Array.getElem?_eq_some_iff.1 h).1 hr]; exact h
theorem ReNil.lt {w : World} {rI : Nat} (h : ReNil w rI) : rI < w.heap.size := (Array.getElem?_eq_some_iff.1 h).1
theorem ReAt.chg {w w' : World} {base rI m : Nat} {s0 sx S : Nat → Prop} (h : ReAt w base rI s0 sx m) (hc : Chg S w w') (hr : ¬ S rI) (hb : ∀ b, S b → b < base) (hs : ∀ b, S b → ¬ s0 b) : ReAt w' base rI s0 sx m := by
  obtain ⟨v, L, h0, h1, h2, h3, h4⟩ := h
  refine ⟨v, L, h0, ?_, h2.of_block fun k hk => hc.block k (h2.lt k hk).2 (fun hS => by have := (h2.lt k hk).1; have := hb k hS; omega), fun p hp => ?_, h4⟩
  · rw [hc.block _ (Array.getElem?_eq_some_iff.1 h1).1 hr]; exact h1
  · obtain ⟨N, g1, g2, g3⟩ := h3 p hp
    refine ⟨N, hc.node g1 (fun hS => ?_), g2, g3⟩
    rcases g3 with g | g
    · exact hs p hS g
    · have := hb p hS; omega
theorem ReAt.mono {w : World} {base base' rI m m' : Nat} {s0 s1 sx sy : Nat → Prop} (h : ReAt w base rI s0 sx m) (hm : m ≤ m') (hb : base' ≤ base) (hs : ∀ b, s0 b → s1 b ∨ base' ≤ b) (hx : ∀ k, base ≤ k → sy k → sx k) : ReAt w base' rI s1 sy m' := by
  obtain ⟨v, L, h0, h1, h2, h3, h4⟩ := h
  refine ⟨v, L, by omega, h1, ⟨h2.len, h2.own.1, ?_⟩, fun p hp => ?_, fun k hk hy => h4 k hk (hx k (h2.lt k hk).1 hy)⟩
  · rcases h2.own.2 with h | ⟨g, cap, cur, e, h4, h5⟩
    · exact .inl h
    · exact .inr ⟨g, cap, cur, e, Nat.le_trans hb h4, h5⟩
  · obtain ⟨N, g1, g2, g3⟩ := h3 p hp
    refine ⟨N, g1, g2, ?_⟩
    rcases g3 with g | g
    · exact hs p g
    · exact .inr (by omega)
/-- What a call of 'nodeDelete' finds. -/
structure DelCtx (c : Int) (Z : Nat → Prop) (w : World) (s : Nat → Prop) (tr rb ro : Nat) (r : R) (b o : Nat) (sR : R) (rI : Nat) : Prop where
  ins : InsCtx c Z w s tr rb ro r b o sR
  fr : OpenAt w rb ro
  rbZ : ¬ Z rb
  bb : b ≠ rb
  nil : ReNil w rI
  rs : ¬ s rI
  rt : rI ≠ tr
  rb_ : rI ≠ rb
  rb' : rI ≠ b
  rZ : ¬ Z rI
/-- What it leaves. -/
def DelPost (c : Int) (Z : Nat → Prop) (w : World) (h p q : Nat) (s : Nat → Prop) (rb ro rI : Nat) (y : Bool × Bool × R × Nde (El h)) (e : Ending) (w' : World) : Prop :=
  e = .returned (.tuple #[.bool y.1, .bool y.2.1]) ∧ ∃ (ic : Int) (X : Nat → R × An h) (s' : Nat → Prop) (w2 : World) (d : Nat), w' = (setRect w2 rb ro y.2.2.1).drewN d ∧ OwnN c Z w2 h p q ic y.2.2.2 X s' ∧ Grew w s s' ∧ Chg (fun b => s b ∨ b = rI) w w2 ∧
    (y.1 = false → ReNil w2 rI) ∧ ReAt w2 w.heap.size rI s s' h
/-- The contract. -/
def DelC (c : Int) (Z : Nat → Prop) (tr b o : Nat) (sR : R) (x : Int) (rI : Nat) (h : Nat) (f : R → Nde (El h) → Bool × Bool × R × Nde (El h)) : Prop :=
  ∀ (w : World) (p q : Nat) (ic : Int) (X : Nat → R × An h) (s : Nat → Prop) (rb ro : Nat) (r : R) (nd : Nde (El h)), OwnN c Z w h p q ic nd X s → DelCtx c Z w s tr rb ro r b o sR rI → WfN h nd →
    Calls Try.prog 97 #[.pointer (some ⟨tr, 0, none⟩), .pointer (some ⟨rb, ro, none⟩), .pointer (some ⟨p, 0, none⟩), .pointer (some ⟨b, o, none⟩), .int .i64 x, .pointer (some ⟨rI, 0, none⟩)] w fun e w' => DelPost c Z w h p q s rb ro rI (f r nd) e w'
theorem setRect_self {w : World} {b o : Nat} {r : R} (h : RectAt w b o r) : setRect w b o r = w := by
  obtain ⟨h0, h1, h2, h3⟩ := h
  unfold setRect
  rw [World.setCell_self h0, World.setCell_self h1, World.setCell_self h2, World.setCell_self h3]
/-- A slice that begins at the array's end keeps the array's address: then nothing is copied out of it. -/
theorem slot_end2 (p q i i1 k : Nat) (h : i1 + k ≤ 64) (h' : i1 ≤ 64) : ∃ d, (if 64 = i1 then (⟨p, 3, none⟩ : Addr) else ⟨p, 3 + i1 * 4, none⟩) = ⟨p, 3 + d * 4, none⟩ ∧ (if 64 = i1 then some (⟨q, 0, none⟩ : Addr) else some ⟨q, i1, none⟩) = some ⟨q, d, none⟩ ∧ d + k ≤ 64 ∧ ∀ {α : Type} (f : Nat → α), mv2 f f i d k = mv2 f f i i1 k := by
  by_cases e : 64 = i1
  · refine ⟨0, by rw [if_pos e], by rw [if_pos e], by omega, fun f => ?_⟩
    have : k = 0 := by omega
    subst this
    funext j
    unfold mv2
    rw [if_neg (by omega), if_neg (by omega)]
  · exact ⟨i1, by rw [if_neg e], by rw [if_neg e], h, fun _ => rfl⟩
/-- An entry is gone. -/
def dropE {α : Type} (z : α) (E : Nat → R × α) (i n : Nat) : Nat → R × α := Bx.upd (shiftL E i n) (n - 1) ((shiftL E i n (n - 1)).1, z)
theorem mp_dropE {α β : Type} (f : α → β) (z : α) (E : Nat → R × α) (i n : Nat) : mp f (dropE z E i n) = dropE (f z) (mp f E) i n := by
  unfold dropE
  rw [mp_upd, ← mp_shiftL]; rfl
theorem dropE_lst {α : Type} (z : α) (E : Nat → R × α) {i n : Nat} (h : i < n) : (E i :: lst (n - 1) (dropE z E i n)).Perm (lst n E) := by
  unfold dropE
  rw [upd_lst _ _ (Nat.le_refl _)]
  exact shiftL_perm E h
theorem OwnN.drop {c : Int} {Z : Nat → Prop} {w w' : World} {h p q : Nat} {ic : Int} {t : Nde (El h)} {X : Nat → R × An h} {s : Nat → Prop} {i : Nat} (k : OwnN c Z w h p q ic t X s) (hi : i < t.n) (hsZ : ∀ b, s b → ¬ Z b) (hc : Chg (fun b => b = p ∨ b = q) w w')
    (hN : NodeAt w' p ⟨ic, leafB h, (t.n - 1 : Nat), q, fun j => (dropE (zAn h) X i t.n j).1⟩) (hL : ListAt w' q (elT (leafB h)) (fE (mp An.v (dropE (zAn h) X i t.n)))) (hf : Fit (leafB h) (fE (mp An.v (dropE (zAn h) X i t.n)))) :
    OwnN c Z w' h p q ic ⟨t.n - 1, dropE (dfl h) t.E i t.n⟩ (dropE (zAn h) X i t.n) s ∧ Chg s w w' := by
  have hsp : ∀ b, (b = p ∨ b = q) → s b := fun b hb => by rcases hb with rfl | rfl; exact k.ow.sp; exact k.ow.sq
  have hp := dropE_lst (zAn h) X hi
  have hmem : ∀ f, f ∈ lst (t.n - 1) (dropE (zAn h) X i t.n) → f ∈ lst t.n X := fun f hf => hp.mem_iff.1 (List.mem_cons_of_mem _ hf)
  have hn := k.nx.n64
  refine ⟨⟨⟨hN, hL, hf, k.nx.pq, by dsimp only; omega⟩, ?_, fun f hm => ?_, ⟨k.ow.sp, k.ow.sq, fun b hb => Nat.lt_of_lt_of_le (k.ow.slt b hb) hc.size, fun f hm b hb => k.ow.sub f (hmem f hm) b hb, ?_, k.ow.icc⟩⟩, hc.mono hsp⟩
  · rw [mp_dropE, ← k.tE]; rfl
  · refine (k.el f (hmem f hm)).frame (fun b hb => hsZ b (hsp b hb)) hc fun b hb hb' => ?_
    rcases hb with rfl | rfl
    · exact (k.ow.sub f (hmem f hm) _ hb').2.1 rfl
    · exact (k.ow.sub f (hmem f hm) _ hb').2.2 rfl
  · exact (List.pairwise_cons.1 ((pw_perm hp).2 k.ow.sep)).2
theorem shift_fst {α : Type} (E : Nat → R × α) (i n : Nat) : (fun j => (shiftL E i n j).1) = shiftL (fun j => (E j).1) i n := by funext j; simp only [shiftL]; split <;> rfl
theorem drop_fst {α : Type} (z : α) (E : Nat → R × α) (i n : Nat) : (fun j => (dropE z E i n j).1) = shiftL (fun j => (E j).1) i n := by
  rw [← shift_fst]
  funext j
  unfold dropE Bx.upd
  split
  · rename_i h; rw [h]
  · rfl
theorem drop_snd {h : Nat} (X : Nat → R × An h) (i n : Nat) : fE (mp An.v (dropE (zAn h) X i n)) = Bx.upd (shiftL (fE (mp An.v X)) i n) (n - 1) (zE (leafB h)) := by
  rw [mp_dropE]
  funext j
  unfold fE dropE Bx.upd
  split
  · rfl
  · simp only [shiftL]; split <;> rfl
end Go.Proofs.Ytboeldlilkeihaa
