/- The contracts of the small functions of a node: leaf, items, children, swap. -/
import Derived.Test.YtenokcfpmfoekaaNode
import Derived.Lib.Hide
set_option linter.unusedSimpArgs false
set_option linter.unusedVariables false
namespace Go
namespace Bx
@[go_sem] theorem kindOf_true : kindOf true = 1 := rfl
@[go_sem] theorem kindOf_false : kindOf false = 2 := rfl
@[go_sem] theorem listOf_true (q : Nat) : listOf true q = .slice (some ⟨q, 0, none⟩) 64 64 := rfl
@[go_sem] theorem listOf_false (q : Nat) : listOf false q = .slice none 0 0 := rfl
end Bx
open Go.Bx
theorem NodeAt.opn {w : World} {p : Nat} {N : Nd} (h : NodeAt w p N) : ∃ w0 : World, w = w0.putN p N ∧ p < w0.heap.size := ⟨w, h.self.symm, h.lt⟩
theorem NodeAt.opn2 {w : World} {p q : Nat} {N : Nd} {T : TypeId} {f : Nat → Value} (h : NodeAt w p N) (k : ListAt w q T f) : ∃ w0 : World, w = (w0.putN p N).putL q T f ∧ p < w0.heap.size ∧ q < w0.heap.size :=
  ⟨w, by rw [h.self, k.self], h.lt, k.lt⟩
end Go
namespace Go.Proofs.Ytenokcfpmfoekaa
open Go.RowKit Go.Bx

/-- What a list holds: whole numbers in a leaf, pointers in a branch. -/
def Fit (b : Bool) (f : Nat → Value) : Prop := match b with
  | true => ∃ g : Nat → Int, f = fun k => .int .i64 (g k)
  | false => ∃ g : Nat → Option Addr, f = fun k => .pointer (g k)
theorem Fit.swap {b : Bool} {f : Nat → Value} (h : Fit b f) (i j : Nat) : Fit b (swapF f i j) := by
  cases b
  · obtain ⟨g, rfl⟩ := h
    exact ⟨swapF g i j, by funext k; simp only [swapF]; split <;> (try split) <;> rfl⟩
  · obtain ⟨g, rfl⟩ := h
    exact ⟨swapF g i j, by funext k; simp only [swapF]; split <;> (try split) <;> rfl⟩
/-- The type of what a node's list holds. -/
def elT (b : Bool) : TypeId := if b then 3 else 68

theorem leaf_c (w : World) (p : Nat) (N : Nd) (hN : NodeAt w p N) :
    Calls Try.prog 70 #[.pointer (some ⟨p, 0, none⟩)] w fun e w' => e = .returned (.bool N.leaf) ∧ w' = w := by
  obtain ⟨w0, rfl, hp⟩ := hN.opn
  clear hN
  cases hb : N.leaf
  · go_enter Try.func70, Try.ntmps70
    go_wp2
    go_ret
    exact ⟨rfl, rfl⟩
  · go_enter Try.func70, Try.ntmps70
    go_wp2
    go_ret
    exact ⟨rfl, rfl⟩

theorem items_c (w : World) (p : Nat) (N : Nd) (hN : NodeAt w p N) (hb : N.leaf = true) :
    Calls Try.prog 62 #[.pointer (some ⟨p, 0, none⟩)] w fun e w' => e = .returned (.slice (some ⟨N.q, 0, none⟩) 64 64) ∧ w' = w := by
  obtain ⟨w0, rfl, hp⟩ := hN.opn
  clear hN
  go_enter Try.func62, Try.ntmps62
  go_wp2
  go_ret
  exact ⟨rfl, rfl⟩

theorem children_c (w : World) (p : Nat) (N : Nd) (hN : NodeAt w p N) (hb : N.leaf = false) :
    Calls Try.prog 74 #[.pointer (some ⟨p, 0, none⟩)] w fun e w' => e = .returned (.slice (some ⟨N.q, 0, none⟩) 64 64) ∧ w' = w := by
  obtain ⟨w0, rfl, hp⟩ := hN.opn
  clear hN
  go_enter Try.func74, Try.ntmps74
  go_wp2
  go_ret
  exact ⟨rfl, rfl⟩

theorem swap_nd (icow : Int) (leaf : Bool) (cnt : Int) (q : Nat) (rc : Nat → R) (i j : Nat) :
    ((⟨icow, leaf, cnt, q, rc⟩ : Nd).setR i ⟨(rc j).x0, (rc j).y0, (rc j).x1, (rc j).y1⟩).setR j ⟨(rc i).x0, (rc i).y0, (rc i).x1, (rc i).y1⟩ = ⟨icow, leaf, cnt, q, swapF rc i j⟩ := by
  simp only [Nd.setR, Nd.mk.injEq, true_and]
  exact upd_swap rc i j

set_option maxRecDepth 100000 in
theorem swap_c (w : World) (p : Nat) (N : Nd) (f : Nat → Value) (i j : Nat) (hN : NodeAt w p N) (hL : ListAt w N.q (elT N.leaf) f) (hf : Fit N.leaf f) (hpq : p ≠ N.q) (hi : i < 64) (hj : j < 64) :
    Calls Try.prog 69 #[.pointer (some ⟨p, 0, none⟩), .int .i64 i, .int .i64 j] w fun e w' => e = .returned (.tuple #[]) ∧
      ∃ n, w' = ((w.putN p { N with rc := swapF N.rc i j }).putL N.q (elT N.leaf) (swapF f i j)).drewN n := by
  obtain ⟨icow, leaf, cnt, q, rc⟩ := N
  dsimp only at *
  obtain ⟨w0, rfl, hp, hq⟩ := hN.opn2 hL
  clear hN hL
  have hqp : q ≠ p := hpq.symm
  generalize hT : elT leaf = T
  have HT := Lib.hid hT
  clear hT
  have i1 : (0 : Int) ≤ (i : Int) := by omega
  have i2 : (i : Int) < 64 := by omega
  have j1 : (0 : Int) ≤ (j : Int) := by omega
  have j2 : (j : Int) < 64 := by omega
  cases hb : leaf
  case false =>
    subst hb
    obtain ⟨g, rfl⟩ := hf
    go_enter Try.func69, Try.ntmps69
    go_wp2_with fail
    (refine Mix.wp_region_drw 19 [3, 0] (by kernel_rfl) (by kernel_rfl) ?_; simp only [List.take_succ_cons, List.take_zero, List.drop_succ_cons, List.drop_zero]; (repeat (go_big_quiet_step (fail))); refine wpQuiet_nil ?_)
    (refine Mix.wpTl_dr (fun n K hK => ?_); go_simp; refine ⟨_, ⟨_, rfl⟩, hK _ _ trivial ?_⟩; clear hK K; simp only [Act.put, List.take_succ_cons, List.take_zero, List.drop_succ_cons, List.drop_zero])
    (repeat (go_big_quiet_step (fail))); refine wpQuiet_nil ?_
    (refine Mix.wpTl_dr (fun n K hK => ?_); go_simp; refine ⟨_, ⟨_, rfl⟩, hK _ _ trivial ?_⟩; clear hK K; simp only [Act.put, List.take_succ_cons, List.take_zero, List.drop_succ_cons, List.drop_zero])
    (refine wpQuiet_nil ?_; intro nq)
    rw [swap_nd]
    go_wp2_with fail
    refine (leaf_c _ p ⟨icow, _, cnt, q, _⟩ (((NodeAt.put _ hp).putL_other hqp).drewN _)).mono ?_
    rintro e w1 ⟨rfl, rfl⟩
    go_wp2_with fail
    (refine Mix.wp_region_drw 17 [1, 0] (by kernel_rfl) (by kernel_rfl) ?_; simp only [List.take_succ_cons, List.take_zero, List.drop_succ_cons, List.drop_zero]; (repeat (go_big_quiet_step ((go_at_call 74; exact Mix.calls_q (children_c _ p ⟨icow, _, cnt, q, _⟩ (((NodeAt.put _ hp).putL_other hqp).drewN _) rfl) ⟨_, rfl⟩)))); refine wpQuiet_nil ?_)
    (refine Mix.wpTl_dr (fun n K hK => ?_); go_simp; refine ⟨_, ⟨_, rfl⟩, hK _ _ trivial ?_⟩; clear hK K; simp only [Act.put, List.take_succ_cons, List.take_zero, List.drop_succ_cons, List.drop_zero])
    (repeat (go_big_quiet_step (fail))); refine wpQuiet_nil ?_
    (refine Mix.wpTl_dr (fun n K hK => ?_); go_simp; refine ⟨_, ⟨_, rfl⟩, hK _ _ trivial ?_⟩; clear hK K; simp only [Act.put, List.take_succ_cons, List.take_zero, List.drop_succ_cons, List.drop_zero])
    (refine wpQuiet_nil ?_; intro nq)
    go_wp2_with fail
    go_end0
    refine ⟨rfl, ?_⟩
    have e := upd_swap (fun k => Value.pointer (g k)) i j
    rw [e]
    rw [World.putN_putL _ _ _ _ _ _ hqp, World.putN_putN, World.putL_putL]
    exact ⟨_, rfl⟩
  case true =>
    subst hb
    obtain ⟨g, rfl⟩ := hf
    go_enter Try.func69, Try.ntmps69
    go_wp2_with fail
    (refine Mix.wp_region_drw 19 [3, 0] (by kernel_rfl) (by kernel_rfl) ?_; simp only [List.take_succ_cons, List.take_zero, List.drop_succ_cons, List.drop_zero]; (repeat (go_big_quiet_step (fail))); refine wpQuiet_nil ?_)
    (refine Mix.wpTl_dr (fun n K hK => ?_); go_simp; refine ⟨_, ⟨_, rfl⟩, hK _ _ trivial ?_⟩; clear hK K; simp only [Act.put, List.take_succ_cons, List.take_zero, List.drop_succ_cons, List.drop_zero])
    (repeat (go_big_quiet_step (fail))); refine wpQuiet_nil ?_
    (refine Mix.wpTl_dr (fun n K hK => ?_); go_simp; refine ⟨_, ⟨_, rfl⟩, hK _ _ trivial ?_⟩; clear hK K; simp only [Act.put, List.take_succ_cons, List.take_zero, List.drop_succ_cons, List.drop_zero])
    (refine wpQuiet_nil ?_; intro nq)
    rw [swap_nd]
    go_wp2_with fail
    refine (leaf_c _ p ⟨icow, _, cnt, q, _⟩ (((NodeAt.put _ hp).putL_other hqp).drewN _)).mono ?_
    rintro e w1 ⟨rfl, rfl⟩
    go_wp2_with fail
    (refine Mix.wp_region_drw 17 [1, 0] (by kernel_rfl) (by kernel_rfl) ?_; simp only [List.take_succ_cons, List.take_zero, List.drop_succ_cons, List.drop_zero]; (repeat (go_big_quiet_step ((go_at_call 62; exact Mix.calls_q (items_c _ p ⟨icow, _, cnt, q, _⟩ (((NodeAt.put _ hp).putL_other hqp).drewN _) rfl) ⟨_, rfl⟩)))); refine wpQuiet_nil ?_)
    (refine Mix.wpTl_dr (fun n K hK => ?_); go_simp; refine ⟨_, ⟨_, rfl⟩, hK _ _ trivial ?_⟩; clear hK K; simp only [Act.put, List.take_succ_cons, List.take_zero, List.drop_succ_cons, List.drop_zero])
    (repeat (go_big_quiet_step (fail))); refine wpQuiet_nil ?_
    (refine Mix.wpTl_dr (fun n K hK => ?_); go_simp; refine ⟨_, ⟨_, rfl⟩, hK _ _ trivial ?_⟩; clear hK K; simp only [Act.put, List.take_succ_cons, List.take_zero, List.drop_succ_cons, List.drop_zero])
    (refine wpQuiet_nil ?_; intro nq)
    go_wp2_with fail
    go_end0
    refine ⟨rfl, ?_⟩
    have e := upd_swap (fun k => Value.int .i64 (g k)) i j
    rw [e]
    rw [World.putN_putL _ _ _ _ _ _ hqp, World.putN_putN, World.putL_putL]
    exact ⟨_, rfl⟩
end Go.Proofs.Ytenokcfpmfoekaa
