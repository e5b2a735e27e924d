/- The boxes of numbers, and the boxes of the package: lists that are made by append. -/
import Derived.Test.YtenokcfpmfoekaaLawA
import Derived.Test.YtenokcfpmfoekaaNew
set_option linter.unusedSimpArgs false
set_option linter.unusedVariables false
namespace Go
namespace Bx
/-- The k-th box of numbers. -/
def boxAt (zs : List Int) (k : Nat) : R := R.of4 (zs.getD (4 * k) 0) (zs.getD (4 * k + 1) 0) (zs.getD (4 * k + 2) 0) (zs.getD (4 * k + 3) 0)
def boxesN (zs : List Int) (k : Nat) : List R := (List.range k).map (boxAt zs)
def boxesOf (zs : List Int) : List R := boxesN zs (min 64 (zs.length / 4))
theorem boxesN_succ (zs : List Int) (k : Nat) : boxesN zs (k + 1) = boxesN zs k ++ [boxAt zs k] := by simp [boxesN, List.range_succ]
theorem boxesN_len (zs : List Int) (k : Nat) : (boxesN zs k).length = k := by simp [boxesN]
end Bx
end Go
namespace Go.Proofs.Ytenokcfpmfoekaa
open Go.RowKit Go.Bx

/-- An argument of type []int16. -/
structure Ints16At (w : World) (v : Value) (zs : List Int) : Prop where
  form : ∃ o cap, v = .slice o zs.length cap ∧ (0 < zs.length → ∃ a, o = some a ∧ a.block < w.heap.size ∧ ∀ i, i < zs.length → w.cell? (a.add i) = some (.int .i16 (zs.getD i 0)))
  le : zs.length ≤ 70368744175616
  wf : ∀ i, I16 (zs.getD i 0)
theorem cell_ext (w : World) (x : Mix.Xt) (a : Addr) (h : a.block < w.heap.size) : (w.ext x).cell? a = w.cell? a := by
  obtain ⟨b, o, s⟩ := a
  exact World.cell?_ext _ _ _ _ _ h
theorem add_succ (a : Addr) (i : Nat) : a.add (i + 1) = ⟨a.block, a.off + (i + 1), none⟩ := by simp [Addr.add]
theorem add_block (a : Addr) (i : Nat) : (a.add i).block = a.block := by unfold Addr.add; split <;> rfl

theorem info_box : (Try.prog.info? 25).map (fun i => (i.zero, i.size, i.bytes)) = some (some (.agg #[.int .i64 0, .int .i64 0, .int .i64 0, .int .i64 0]), 4, 32) := by kernel_rfl

set_option maxRecDepth 100000 in
set_option maxHeartbeats 1600000 in
theorem specBoxes_c (w : World) (v : Value) (zs : List Int) (h : Ints16At w v zs) :
    Calls Try.prog 27 #[v] w fun e w' => ∃ g cap, e = .returned (.slice (some ⟨g, 0, none⟩) (boxesOf zs).length cap) ∧
      w'.Row w.heap.size 25 4 boxV (.slice (some ⟨g, 0, none⟩) (boxesOf zs).length cap) (boxesOf zs) ∧ Mix.Ex w w' := by
  obtain ⟨⟨o, cap0, rfl, hcells⟩, hle, hwf⟩ := h
  obtain ⟨i0, hi0, hz0, hz1, hz2⟩ := info_parts info_box
  obtain ⟨B, hB⟩ : ∃ B, w.heap.size = B := ⟨_, rfl⟩
  go_enter Try.func27, Try.ntmps27
  go_wp2_with fail
  go_loopw [3, 4] (fun v i wr => ∃ k at' g cap : Nat, k ≤ 64 ∧ at' = 4 * k ∧ 4 * k ≤ zs.length ∧ i = .int .i64 at' ∧ v = .slice (some ⟨g, 0, none⟩) k cap ∧
      wr.Row B 25 4 boxV v (boxesN zs k) ∧ Mix.Ex w wr) (fun _ i _ => zs.length - (intOf i).toNat)
  case atStart =>
    exact ⟨0, 0, B, 0, by omega, rfl, by omega, rfl, rfl, .made boxV_len B (Nat.le_refl _) (by rw [← hB]; exact heap_alloc_new w _), (Mix.Ex.refl _).alloc _⟩
  case round =>
    obtain ⟨k, at', g, cap, hk, hat, hk4, rfl, rfl, hrow, hx⟩ := hrel
    have hbs := hx.below.size
    have Hat := Lib.hid hat
    have hk4' : at' ≤ zs.length := by omega
    clear hat hk4
    go_wp2_with fail
    · have h1 : (at' : Int) + 4 ≤ zs.length := by assumption
      have h2 : (k : Int) < 64 := by assumption
      obtain ⟨a, rfl, ha, hc⟩ := hcells (by omega)
      have e0 : ∀ x, (w.ext x).cell? (a.add at') = some (.int .i16 (zs.getD at' 0)) := fun x => by rw [cell_ext _ _ _ (by rw [add_block]; exact ha)]; exact hc _ (by omega)
      have e1 : ∀ x, (w.ext x).cell? ⟨a.block, a.off + (at' + 1), none⟩ = some (.int .i16 (zs.getD (at' + 1) 0)) := fun x => by rw [World.cell?_ext _ _ _ _ _ ha, ← add_succ]; exact hc _ (by omega)
      have e2 : ∀ x, (w.ext x).cell? ⟨a.block, a.off + (at' + 2), none⟩ = some (.int .i16 (zs.getD (at' + 2) 0)) := fun x => by rw [World.cell?_ext _ _ _ _ _ ha, ← add_succ]; exact hc _ (by omega)
      have e3 : ∀ x, (w.ext x).cell? ⟨a.block, a.off + (at' + 3), none⟩ = some (.int .i16 (zs.getD (at' + 3) 0)) := fun x => by rw [World.cell?_ext _ _ _ _ _ ha, ← add_succ]; exact hc _ (by omega)
      generalize hz0 : zs.getD at' 0 = z0 at e0
      generalize hz1 : zs.getD (at' + 1) 0 = z1 at e1
      generalize hz2 : zs.getD (at' + 2) 0 = z2 at e2
      generalize hz3 : zs.getD (at' + 3) 0 = z3 at e3
      have HZ0 := Lib.hid hz0
      have HZ1 := Lib.hid hz1
      have HZ2 := Lib.hid hz2
      have HZ3 := Lib.hid hz3
      clear hz0 hz1 hz2 hz3 hc hcells
      (refine Mix.wp_region_own w 20 [0, 0, 1] (by kernel_rfl) (by kernel_rfl) (by assumption) ?_; simp only [List.take_succ_cons, List.take_zero, List.drop_succ_cons, List.drop_zero])
      (repeat (go_big_quiet_step (fail))); refine wpQuiet_nil ?_
      (refine Mix.wpTl_dr (fun n K hK => ?_); go_simp)
      refine (BoxOf_c _ z0 z1 z2 z3 (by rw [← HZ0.out]; exact hwf _) (by rw [← HZ1.out]; exact hwf _) (by rw [← HZ2.out]; exact hwf _) (by rw [← HZ3.out]; exact hwf _)).mono ?_
      rintro e w1 ⟨rfl, x1, rfl⟩
      have hx1 := ((hx.drewN n).ext x1)
      refine ⟨_, rfl, _, Mix.Dr.refl _, hx1, hK _ _ hx1 ?_⟩
      (clear hK K; simp only [Act.put, List.setIfInBounds_toArray, List.set_cons_zero, List.set_cons_succ, List.take_succ_cons, List.take_zero, List.drop_succ_cons, List.drop_zero])
      have hrow1 := (hrow.ex ((Mix.Ex.refl _).drewN n)).ex ((Mix.Ex.refl _).ext x1)
      generalize ((wr.drewN n).ext x1) = w1 at hx1 hrow1
      clear hx hrow
      refine wpQuiet_nil ?_
      refine Mix.wpTl_dr (fun n K hK => ?_)
      go_simp
      have hx2 := hx1.alloc (.cells (boxV (R.of4 z0 z1 z2 z3)).toArray 25)
      have hrow2 := hrow1.ex ((Mix.Ex.refl w1).alloc (.cells (boxV (R.of4 z0 z1 z2 z3)).toArray 25))
      have hnew := heap_alloc_new w1 (.cells (boxV (R.of4 z0 z1 z2 z3)).toArray 25)
      refine ⟨_, ⟨n, rfl⟩, hx2, hK _ _ hx2 ?_⟩
      (clear hK K; simp only [Act.put, List.setIfInBounds_toArray, List.set_cons_zero, List.set_cons_succ, List.take_succ_cons, List.take_zero, List.drop_succ_cons, List.drop_zero])
      refine wpQuiet_nil ?_
      change Mix.wpTl _ _ _ _ _ _ _ _ _ (w1.alloc (.cells (boxV (R.of4 z0 z1 z2 z3)).toArray 25))
      have hs2 : w1.heap.size < (w1.alloc (.cells (boxV (R.of4 z0 z1 z2 z3)).toArray 25)).heap.size := by simp
      generalize w1.heap.size = G at hnew hs2
      generalize (w1.alloc (.cells (boxV (R.of4 z0 z1 z2 z3)).toArray 25)) = w2 at hx2 hrow2 hnew hs2
      clear hx1 hrow1
      have hlen := boxesN_len zs k
      refine Mix.wpTl_append (.tmp 18) (.tmp 39) 34 rfl B 25 i0 _ 4 32 Try.underlying34 hi0 hz0 hz1 hz2 rfl (by omega) boxV (.slice (some ⟨g, 0, none⟩) k cap) (boxesN zs k) (R.of4 z0 z1 z2 z3) rfl hrow2
        ⟨G, 0, none⟩ 1 rfl (World.news_of_block hnew) (boxV_one _) (by unfold maxLen; omega) (by omega) (by have := hx2.below.size; omega) ?_
      intro g2 cap2 w3 hrow3 hgrow hat2 hlt2
      have hx3 := hx2.grown hgrow (fun j hj => by simp [Value.ownBlock] at hj; subst hj; rw [hB]; exact (hrow2.lt _ rfl).1)
      refine ⟨hx3, ?_⟩
      (simp only [Act.put, List.setIfInBounds_toArray, List.set_cons_zero, List.set_cons_succ, List.take_succ_cons, List.take_zero, List.drop_succ_cons, List.drop_zero])
      (repeat (go_big_quiet_step (fail)))
      (refine wpQuiet_nil ?_; intro nq)
      have hb : boxAt zs k = R.of4 z0 z1 z2 z3 := by
        unfold boxAt
        rw [← Hat.out, HZ0.out, HZ1.out, HZ2.out, HZ3.out]
      rw [← hb, ← boxesN_succ] at hrow3
      rw [hlen] at hrow3
      clear hrow2 hnew
      go_wp2_with fail
      go_roundw
      case rel =>
        refine ⟨k + 1, at' + 4, g2, cap2, by omega, by have := Hat.out; omega, by have := Hat.out; omega, by go_num, by rw [hlen], by rw [hlen]; exact hrow3.ex ((Mix.Ex.refl _).drewN _), hx3.drewN _⟩
      case measure => simp [intOf]; omega
    · have e : boxesOf zs = boxesN zs k := by
        have := Hat.out
        unfold boxesOf; congr 1; omega
      go_ret
      rw [e, boxesN_len]
      exact ⟨g, cap, rfl, by first | exact hrow | (rw [hB]; exact hrow), hx⟩
    · have e : boxesOf zs = boxesN zs k := by
        have := Hat.out
        unfold boxesOf; congr 1; omega
      go_ret
      rw [e, boxesN_len]
      exact ⟨g, cap, rfl, by first | exact hrow | (rw [hB]; exact hrow), hx⟩
end Go.Proofs.Ytenokcfpmfoekaa
