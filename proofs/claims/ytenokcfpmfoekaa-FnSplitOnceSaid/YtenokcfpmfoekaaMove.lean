/- The contract of 'moveRectAtIndexInto': an entry goes from one node into another. -/
import Derived.Test.YtenokcfpmfoekaaChg
set_option linter.unusedSimpArgs false
set_option linter.unusedVariables false
namespace Go
open Go.RowKit Go.Bx
/-- Two nodes and their lists, all four blocks written as a whole. -/
def World.put4 (w : World) (p q p' q' : Nat) (ic ic' : Int) (b : Bool) (T : TypeId) (n : Nat) (L : Ent) (m : Nat) (M : Ent) : World :=
  (((w.putN p ⟨ic, b, n, q, fun i => (L i).1⟩).putN p' ⟨ic', b, m, q', fun i => (M i).1⟩).putL q T (fE L)).putL q' T (fE M)
end Go
namespace Go.Proofs.Ytenokcfpmfoekaa
open Go.RowKit Go.Bx
theorem setR_mk (ic : Int) (b : Bool) (c : Int) (q : Nat) (rc : Nat → R) (i : Nat) (r : R) : (⟨ic, b, c, q, rc⟩ : Nd).setR i ⟨r.x0, r.y0, r.x1, r.y1⟩ = ⟨ic, b, c, q, upd rc i r⟩ := rfl
theorem setCnt_mk (ic : Int) (b : Bool) (c d : Int) (q : Nat) (rc : Nat → R) : (⟨ic, b, c, q, rc⟩ : Nd).setCnt d = ⟨ic, b, d, q, rc⟩ := rfl
theorem node4a {w : World} {p p' q q' : Nat} {N N' : Nd} {T : TypeId} {f f' : Nat → Value} (hp : p < w.heap.size) (h1 : p' ≠ p) (h2 : q ≠ p) (h3 : q' ≠ p) (d : Nat) : NodeAt (((((w.putN p N).putN p' N').putL q T f).putL q' T f').drewN d) p N := ((((NodeAt.put N hp).putN_other h1).putL_other h2).putL_other h3).drewN d
theorem node4b {w : World} {p p' q q' : Nat} {N N' : Nd} {T : TypeId} {f f' : Nat → Value} (hp : p' < w.heap.size) (h2 : q ≠ p') (h3 : q' ≠ p') (d : Nat) : NodeAt (((((w.putN p N).putN p' N').putL q T f).putL q' T f').drewN d) p' N' := (((NodeAt.put N' (by simp; exact hp)).putL_other h2).putL_other h3).drewN d
theorem upd_int (g : Nat → Int) (i : Nat) (v : Int) : upd (fun k => Value.int .i64 (g k)) i (.int .i64 v) = fun k => .int .i64 (upd g i v k) := by
  funext k; simp only [upd]; split <;> rfl
theorem upd_ptr (g : Nat → Option Addr) (i : Nat) (v : Option Addr) : upd (fun k => Value.pointer (g k)) i (.pointer v) = fun k => .pointer (upd g i v k) := by
  funext k; simp only [upd]; split <;> rfl
set_option maxRecDepth 100000 in
set_option maxHeartbeats 3200000 in
theorem move_t (w : World) (t p p' q q' : Nat) (ic ic' : Int) (rc rc' : Nat → R) (g g' : Nat → Int) (n c i : Nat)
    (ht : w.cell? ⟨t, 7, none⟩ = some (.int .i64 0)) (htp : t ≠ p) (htq : t ≠ q) (htp' : t ≠ p') (htq' : t ≠ q')
    (hp : p < w.heap.size) (hq : q < w.heap.size) (hp' : p' < w.heap.size) (hq' : q' < w.heap.size)
    (h1 : p ≠ q) (h2 : p ≠ p') (h3 : p ≠ q') (h4 : q ≠ p') (h5 : q ≠ q') (h6 : p' ≠ q') (hi : i ≤ n) (hn : n < 64) (hc : c < 64) (d : Nat) :
    Calls Try.prog 71 #[.pointer (some ⟨t, 0, none⟩), .pointer (some ⟨p, 0, none⟩), .int .i64 i, .pointer (some ⟨p', 0, none⟩)]
      (((((w.putN p ⟨ic, true, (n + 1 : Nat), q, rc⟩).putN p' ⟨ic', true, c, q', rc'⟩).putL q 3 (fun k => .int .i64 (g k))).putL q' 3 (fun k => .int .i64 (g' k))).drewN d)
      fun e w' => e = .returned (.tuple #[]) ∧ ∃ d, w' = ((((w.putN p ⟨ic, true, n, q, upd rc i (rc n)⟩).putN p' ⟨ic', true, (c + 1 : Nat), q', upd rc' c (rc i)⟩).putL q 3 (fun k => .int .i64 (upd (upd g i (g n)) n 0 k))).putL q' 3 (fun k => .int .i64 (upd g' c (g i) k))).drewN d := by
  have h1' := h1.symm
  have h2' := h2.symm
  have h3' := h3.symm
  have h4' := h4.symm
  have h5' := h5.symm
  have h6' := h6.symm
  obtain ⟨m, hm⟩ : ∃ m, n + 1 = m := ⟨_, rfl⟩
  rw [hm]
  have i1 : (m : Int) - 1 = n := by omega
  have b1 : (0 : Int) ≤ (i : Int) := by omega
  have b2 : (i : Int) < 64 := by omega
  have b3 : i < 64 := by omega
  have b4 : (n : Int) < 64 := by omega
  have b5 : (c : Int) < 64 := by omega
  have HM := Lib.hid hm
  clear hm
  go_enter Try.func71, Try.ntmps71
  go_wp2_with fail
  (refine Mix.wp_region_drw 14 [0] (by kernel_rfl) (by kernel_rfl) ?_; simp only [List.take_succ_cons, List.take_zero, List.drop_succ_cons, List.drop_zero]; (repeat (go_big_quiet_step (fail))); refine wpQuiet_nil ?_)
  (refine Mix.wpTl_dr (fun n K hK => ?_); go_simp; refine ⟨_, ⟨_, rfl⟩, hK _ _ trivial ?_⟩; clear hK K; simp only [Act.put, List.take_succ_cons, List.take_zero, List.drop_succ_cons, List.drop_zero])
  (refine wpQuiet_nil ?_; intro nq)
  rw [setR_mk]
  go_wp2_with fail
  (refine Mix.wp_region_drw 15 [0] (by kernel_rfl) (by kernel_rfl) ?_; simp only [List.take_succ_cons, List.take_zero, List.drop_succ_cons, List.drop_zero]; (repeat (go_big_quiet_step (fail))); refine wpQuiet_nil ?_)
  (refine Mix.wpTl_dr (fun n K hK => ?_); go_simp; refine ⟨_, ⟨_, rfl⟩, hK _ _ trivial ?_⟩; clear hK K; simp only [Act.put, List.take_succ_cons, List.take_zero, List.drop_succ_cons, List.drop_zero])
  (refine wpQuiet_nil ?_; intro nq)
  rw [setR_mk]
  go_wp2_with fail
  refine (leaf_c _ _ _ (by exact node4a hp h2' h1' h3' _)).mono ?_
  rintro e w1 ⟨rfl, rfl⟩
  go_wp2_with fail
  (refine Mix.wp_region_drw 12 [0] (by kernel_rfl) (by kernel_rfl) ?_; simp only [List.take_succ_cons, List.take_zero, List.drop_succ_cons, List.drop_zero]; (repeat (go_big_quiet_step ((go_at_call 62; exact Mix.calls_q (items_c _ _ _ (by first | exact node4a hp h2' h1' h3' _ | exact node4b hp' h4 h6' _) (by rfl)) ⟨_, rfl⟩)))); refine wpQuiet_nil ?_)
  (refine Mix.wpTl_dr (fun n K hK => ?_); go_simp; refine ⟨_, ⟨_, rfl⟩, hK _ _ trivial ?_⟩; clear hK K; simp only [Act.put, List.take_succ_cons, List.take_zero, List.drop_succ_cons, List.drop_zero])
  (refine wpQuiet_nil ?_; intro nq)
  rw [upd_int]
  go_wp2_with fail
  (refine Mix.wp_region_drw 13 [0] (by kernel_rfl) (by kernel_rfl) ?_; simp only [List.take_succ_cons, List.take_zero, List.drop_succ_cons, List.drop_zero]; (repeat (go_big_quiet_step ((go_at_call 62; exact Mix.calls_q (items_c _ _ _ (by exact node4a hp h2' h1' h3' _) (by rfl)) ⟨_, rfl⟩)))); refine wpQuiet_nil ?_)
  (refine Mix.wpTl_dr (fun n K hK => ?_); go_simp; refine ⟨_, ⟨_, rfl⟩, hK _ _ trivial ?_⟩; clear hK K; simp only [Act.put, List.take_succ_cons, List.take_zero, List.drop_succ_cons, List.drop_zero])
  (refine wpQuiet_nil ?_; intro nq)
  rw [upd_int]
  go_wp2_with fail
  (refine Mix.wp_region_drw 12 [0] (by kernel_rfl) (by kernel_rfl) ?_; simp only [List.take_succ_cons, List.take_zero, List.drop_succ_cons, List.drop_zero]; (repeat (go_big_quiet_step ((go_at_call 62; exact Mix.calls_q (items_c _ _ _ (by exact node4a hp h2' h1' h3' _) (by rfl)) ⟨_, rfl⟩)))); refine wpQuiet_nil ?_)
  (refine Mix.wpTl_dr (fun n K hK => ?_); go_simp; refine ⟨_, ⟨_, rfl⟩, hK _ _ trivial ?_⟩; clear hK K; simp only [Act.put, List.take_succ_cons, List.take_zero, List.drop_succ_cons, List.drop_zero])
  (refine wpQuiet_nil ?_; intro nq)
  rw [upd_int]
  go_wp2_with fail
  go_end0
  refine ⟨rfl, ?_⟩
  rw [setCnt_mk, setCnt_mk]
  exact ⟨_, rfl⟩
set_option maxRecDepth 100000 in
set_option maxHeartbeats 3200000 in
theorem move_f (w : World) (t p p' q q' : Nat) (ic ic' : Int) (rc rc' : Nat → R) (g g' : Nat → Option Addr) (n c i : Nat)
    (hp : p < w.heap.size) (hq : q < w.heap.size) (hp' : p' < w.heap.size) (hq' : q' < w.heap.size)
    (h1 : p ≠ q) (h2 : p ≠ p') (h3 : p ≠ q') (h4 : q ≠ p') (h5 : q ≠ q') (h6 : p' ≠ q') (hi : i ≤ n) (hn : n < 64) (hc : c < 64) (d : Nat) :
    Calls Try.prog 71 #[.pointer (some ⟨t, 0, none⟩), .pointer (some ⟨p, 0, none⟩), .int .i64 i, .pointer (some ⟨p', 0, none⟩)]
      (((((w.putN p ⟨ic, false, (n + 1 : Nat), q, rc⟩).putN p' ⟨ic', false, c, q', rc'⟩).putL q 68 (fun k => .pointer (g k))).putL q' 68 (fun k => .pointer (g' k))).drewN d)
      fun e w' => e = .returned (.tuple #[]) ∧ ∃ d, w' = ((((w.putN p ⟨ic, false, n, q, upd rc i (rc n)⟩).putN p' ⟨ic', false, (c + 1 : Nat), q', upd rc' c (rc i)⟩).putL q 68 (fun k => .pointer (upd (upd g i (g n)) n none k))).putL q' 68 (fun k => .pointer (upd g' c (g i) k))).drewN d := by
  have h1' := h1.symm
  have h2' := h2.symm
  have h3' := h3.symm
  have h4' := h4.symm
  have h5' := h5.symm
  have h6' := h6.symm
  obtain ⟨m, hm⟩ : ∃ m, n + 1 = m := ⟨_, rfl⟩
  rw [hm]
  have i1 : (m : Int) - 1 = n := by omega
  have b1 : (0 : Int) ≤ (i : Int) := by omega
  have b2 : (i : Int) < 64 := by omega
  have b3 : i < 64 := by omega
  have b4 : (n : Int) < 64 := by omega
  have b5 : (c : Int) < 64 := by omega
  have HM := Lib.hid hm
  clear hm
  go_enter Try.func71, Try.ntmps71
  go_wp2_with fail
  (refine Mix.wp_region_drw 14 [0] (by kernel_rfl) (by kernel_rfl) ?_; simp only [List.take_succ_cons, List.take_zero, List.drop_succ_cons, List.drop_zero]; (repeat (go_big_quiet_step (fail))); refine wpQuiet_nil ?_)
  (refine Mix.wpTl_dr (fun n K hK => ?_); go_simp; refine ⟨_, ⟨_, rfl⟩, hK _ _ trivial ?_⟩; clear hK K; simp only [Act.put, List.take_succ_cons, List.take_zero, List.drop_succ_cons, List.drop_zero])
  (refine wpQuiet_nil ?_; intro nq)
  rw [setR_mk]
  go_wp2_with fail
  (refine Mix.wp_region_drw 15 [0] (by kernel_rfl) (by kernel_rfl) ?_; simp only [List.take_succ_cons, List.take_zero, List.drop_succ_cons, List.drop_zero]; (repeat (go_big_quiet_step (fail))); refine wpQuiet_nil ?_)
  (refine Mix.wpTl_dr (fun n K hK => ?_); go_simp; refine ⟨_, ⟨_, rfl⟩, hK _ _ trivial ?_⟩; clear hK K; simp only [Act.put, List.take_succ_cons, List.take_zero, List.drop_succ_cons, List.drop_zero])
  (refine wpQuiet_nil ?_; intro nq)
  rw [setR_mk]
  go_wp2_with fail
  refine (leaf_c _ _ _ (by exact node4a hp h2' h1' h3' _)).mono ?_
  rintro e w1 ⟨rfl, rfl⟩
  go_wp2_with fail
  (refine Mix.wp_region_drw 12 [0] (by kernel_rfl) (by kernel_rfl) ?_; simp only [List.take_succ_cons, List.take_zero, List.drop_succ_cons, List.drop_zero]; (repeat (go_big_quiet_step ((go_at_call 74; exact Mix.calls_q (children_c _ _ _ (by first | exact node4a hp h2' h1' h3' _ | exact node4b hp' h4 h6' _) (by rfl)) ⟨_, rfl⟩)))); refine wpQuiet_nil ?_)
  (refine Mix.wpTl_dr (fun n K hK => ?_); go_simp; refine ⟨_, ⟨_, rfl⟩, hK _ _ trivial ?_⟩; clear hK K; simp only [Act.put, List.take_succ_cons, List.take_zero, List.drop_succ_cons, List.drop_zero])
  (refine wpQuiet_nil ?_; intro nq)
  rw [upd_ptr]
  go_wp2_with fail
  (refine Mix.wp_region_drw 13 [0] (by kernel_rfl) (by kernel_rfl) ?_; simp only [List.take_succ_cons, List.take_zero, List.drop_succ_cons, List.drop_zero]; (repeat (go_big_quiet_step ((go_at_call 74; exact Mix.calls_q (children_c _ _ _ (by exact node4a hp h2' h1' h3' _) (by rfl)) ⟨_, rfl⟩)))); refine wpQuiet_nil ?_)
  (refine Mix.wpTl_dr (fun n K hK => ?_); go_simp; refine ⟨_, ⟨_, rfl⟩, hK _ _ trivial ?_⟩; clear hK K; simp only [Act.put, List.take_succ_cons, List.take_zero, List.drop_succ_cons, List.drop_zero])
  (refine wpQuiet_nil ?_; intro nq)
  rw [upd_ptr]
  go_wp2_with fail
  (refine Mix.wp_region_drw 8 [0] (by kernel_rfl) (by kernel_rfl) ?_; simp only [List.take_succ_cons, List.take_zero, List.drop_succ_cons, List.drop_zero]; (repeat (go_big_quiet_step ((go_at_call 74; exact Mix.calls_q (children_c _ _ _ (by exact node4a hp h2' h1' h3' _) (by rfl)) ⟨_, rfl⟩)))); refine wpQuiet_nil ?_)
  (refine Mix.wpTl_dr (fun n K hK => ?_); go_simp; refine ⟨_, ⟨_, rfl⟩, hK _ _ trivial ?_⟩; clear hK K; simp only [Act.put, List.take_succ_cons, List.take_zero, List.drop_succ_cons, List.drop_zero])
  (refine wpQuiet_nil ?_; intro nq)
  rw [upd_ptr]
  go_wp2_with fail
  go_end0
  refine ⟨rfl, ?_⟩
  rw [setCnt_mk, setCnt_mk]
  exact ⟨_, rfl⟩
/-- What stands in a list where nothing is. -/
def zE (b : Bool) : Value := if b then .int .i64 0 else .pointer none
theorem put4_eq {w : World} {p q p' q' : Nat} {ic ic' : Int} {b : Bool} {T : TypeId} {n m : Nat} {rc rc' : Nat → R} {f f' : Nat → Value} (L M : Ent) (h1 : ∀ k, rc k = (L k).1) (h2 : ∀ k, rc' k = (M k).1) (h3 : ∀ k, f k = (L k).2) (h4 : ∀ k, f' k = (M k).2) :
    (((w.putN p ⟨ic, b, n, q, rc⟩).putN p' ⟨ic', b, m, q', rc'⟩).putL q T f).putL q' T f' = w.put4 p q p' q' ic ic' b T n L m M := by
  obtain rfl : rc = fun k => (L k).1 := funext h1
  obtain rfl : rc' = fun k => (M k).1 := funext h2
  obtain rfl : f = fE L := funext h3
  obtain rfl : f' = fE M := funext h4
  rfl
/-- All of a split's blocks are different ones, and lie there. -/
structure Apart4 (w : World) (t p q p' q' : Nat) : Prop where
  tp : t ≠ p
  tq : t ≠ q
  tp' : t ≠ p'
  tq' : t ≠ q'
  lp : p < w.heap.size
  lq : q < w.heap.size
  lp' : p' < w.heap.size
  lq' : q' < w.heap.size
  h1 : p ≠ q
  h2 : p ≠ p'
  h3 : p ≠ q'
  h4 : q ≠ p'
  h5 : q ≠ q'
  h6 : p' ≠ q'
theorem move_c (w : World) (t p q p' q' : Nat) (ic ic' : Int) (b : Bool) (n : Nat) (L : Ent) (c : Nat) (M : Ent) (i d : Nat)
    (ht : w.cell? ⟨t, 7, none⟩ = some (.int .i64 0)) (hA : Apart4 w t p q p' q') (hL : Fit b (fE L)) (hM : Fit b (fE M)) (hi : i ≤ n) (hn : n < 64) (hc : c < 64) :
    Calls Try.prog 71 #[.pointer (some ⟨t, 0, none⟩), .pointer (some ⟨p, 0, none⟩), .int .i64 i, .pointer (some ⟨p', 0, none⟩)] ((w.put4 p q p' q' ic ic' b (elT b) (n + 1) L c M).drewN d)
      fun e w' => e = .returned (.tuple #[]) ∧ ∃ d, w' = (w.put4 p q p' q' ic ic' b (elT b) n (mvL L n i (zE b)) (c + 1) (upd M c (L i))).drewN d := by
  obtain ⟨a1, a2, a3, a4, a5, a6, a7, a8, h1, h2, h3, h4, h5, h6⟩ := hA
  have hr : ∀ k, upd (fun k => (L k).1) i (L n).1 k = (mvL L n i (zE b) k).1 := fun k => by
    simp only [mvL, upd]; split <;> (try split) <;> simp_all
  have hr' : ∀ k, upd (fun k => (M k).1) c (L i).1 k = (upd M c (L i) k).1 := fun k => by
    simp only [upd]; split <;> simp_all
  cases b
  · obtain ⟨g, hg⟩ := hL
    obtain ⟨g', hg'⟩ := hM
    have e1 : ∀ k, (L k).2 = .pointer (g k) := fun k => congrFun hg k
    have e2 : ∀ k, (M k).2 = .pointer (g' k) := fun k => congrFun hg' k
    unfold World.put4
    rw [hg, hg']
    refine (move_f w t p p' q q' ic ic' (fun k => (L k).1) (fun k => (M k).1) g g' n c i a5 a6 a7 a8 h1 h2 h3 h4 h5 h6 hi hn hc d).mono ?_
    rintro e w' ⟨rfl, d, rfl⟩
    refine ⟨rfl, d, congrArg (World.drewN · d) (put4_eq _ _ hr hr' (fun k => ?_) (fun k => ?_))⟩
    · simp only [mvL, upd, zE]; split <;> (try split) <;> simp_all
    · simp only [upd]; split <;> simp_all
  · obtain ⟨g, hg⟩ := hL
    obtain ⟨g', hg'⟩ := hM
    have e1 : ∀ k, (L k).2 = .int .i64 (g k) := fun k => congrFun hg k
    have e2 : ∀ k, (M k).2 = .int .i64 (g' k) := fun k => congrFun hg' k
    unfold World.put4
    rw [hg, hg']
    refine (move_t w t p p' q q' ic ic' (fun k => (L k).1) (fun k => (M k).1) g g' n c i ht a1 a2 a3 a4 a5 a6 a7 a8 h1 h2 h3 h4 h5 h6 hi hn hc d).mono ?_
    rintro e w' ⟨rfl, d, rfl⟩
    refine ⟨rfl, d, congrArg (World.drewN · d) (put4_eq _ _ hr hr' (fun k => ?_) (fun k => ?_))⟩
    · simp only [mvL, upd, zE]; split <;> (try split) <;> simp_all
    · simp only [upd]; split <;> simp_all
end Go.Proofs.Ytenokcfpmfoekaa
