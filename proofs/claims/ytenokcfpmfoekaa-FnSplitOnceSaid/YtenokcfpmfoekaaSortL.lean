/- The sorted numbers of a leaf of boxes. -/
import Derived.Test.YtenokcfpmfoekaaSortA
import Derived.Test.YtenokcfpmfoekaaChooseL
import Derived.Test.YtenokcfpmfoekaaRowM
set_option linter.unusedSimpArgs false
set_option linter.unusedVariables false
namespace Go
namespace Bx
def intV (z : Int) : List Value := [.int .i64 z]
theorem intV_len (z : Int) : (intV z).length = 1 := rfl
theorem intV_one (z : Int) : ∀ u ∈ intV z, u.oneCell' = true := by
  intro u hu
  simp [intV] at hu
  subst hu; rfl
theorem flat_int (g : Nat → Int) (n j : Nat) : (((List.range n).map g).flatMap intV)[j]? = if j < n then some (Value.int .i64 (g j)) else none := by
  rw [List.flatMap_map, show (fun a => intV (g a)) = fun a => [Value.int .i64 (g a)] from rfl]
  rw [← List.map_eq_flatMap]
  simp only [List.getElem?_map, List.getElem?_range]
  by_cases h : j < n
  · rw [if_pos h, List.getElem?_range h]; rfl
  · rw [if_neg h, List.getElem?_eq_none (by simp; omega)]; rfl
end Bx
end Go
namespace Go.Proofs.Ytenokcfpmfoekaa
open Go.RowKit Go.Bx
def leafE (rs : List R) (n : Nat) : Ent := fun i => (leafRc rs n i, leafF n i)
theorem Fit_leaf (rs : List R) (n : Nat) : Fit true (fE (leafE rs n)) := ⟨fun i => if i < n then i else 0, by
  funext i; simp only [fE, leafE, leafF]; split <;> rfl⟩

set_option maxRecDepth 100000 in
set_option maxHeartbeats 1600000 in
theorem ZZSort_c (w : World) (g0 cap0 b0 : Nat) (rs : List R) (a : Nat) (rev mx : Bool) (ha : a ≤ 1) (hr : w.Row b0 47 4 boxV (.slice (some ⟨g0, 0, none⟩) rs.length cap0) rs) (hl : rs.length ≤ 64) :
    Calls Try.prog 45 #[.slice (some ⟨g0, 0, none⟩) rs.length cap0, .int .i64 a, .bool rev, .bool mx] w fun e w' => ∃ v g, e = .returned v ∧
      fE (qs (keyK a rev mx) rs.length (leafE rs rs.length) 0 rs.length) = (fun k => .int .i64 (g k)) ∧ w'.Row w.heap.size 3 1 intV v ((List.range rs.length).map g) ∧ Mix.Ex w w' := by
  obtain ⟨i0, hi0, hz0, hz1, hz2⟩ := info_parts info_int
  go_enter Try.func45, Try.ntmps45
  go_wp2_with fail
  refine (zzLeaf_c (w.alloc (.cells tr0 74)) w.heap.size g0 cap0 b0 rs (by simp; rfl) (hr.ex ((Mix.Ex.refl _).alloc _)) hl).mono ?_
  rintro e w1 ⟨p, q, rfl, hN, hL, hpq, hp, hq, hx⟩
  have hx := ((Mix.Ex.refl w).alloc (.cells tr0 74)).trans hx
  simp only [World.size_alloc] at hp hq
  obtain ⟨n, hn⟩ : ∃ n, rs.length = n := ⟨_, rfl⟩
  rw [hn] at hN hL hl ⊢
  have hself : ∀ E, w1.putE p (leafNd rs n q) (elT true) E = ((w1.putN p (ndE (leafNd rs n q) E)).putL q (elT true) (fE E)) := fun _ => rfl
  have hS := sortByAxis_c w1 p (leafNd rs n q) a rev mx ha hN.lt hL.lt hpq n (leafE rs n) 0 rfl hl (Fit_leaf rs n)
  have e0 : w1.putE p (leafNd rs n q) (elT (leafNd rs n q).leaf) (leafE rs n) = w1 := putE_self hN hL
  rw [e0] at hS
  obtain ⟨g, hg⟩ : Fit true (fE (qs (keyK a rev mx) n (leafE rs n) 0 n)) := Fit.qs _ n _ 0 n (Fit_leaf rs n)
  generalize hFF : qs (keyK a rev mx) n (leafE rs n) 0 n = F at hS hg
  have HFF := Lib.hid hFF
  have HNN := Lib.hid hn
  clear hFF hn
  have hN2 : NodeAt (w1.putE p (leafNd rs n q) (elT true) F) p (ndE (leafNd rs n q) F) := NodeAt.putE _ _ _ _ _ hN.lt hpq.symm
  have hL2 : ListAt (w1.putE p (leafNd rs n q) (elT true) F) q (elT true) (fE F) := ListAt.putE _ _ _ _ _ hL.lt
  have hx2 : Mix.Ex w (w1.putE p (leafNd rs n q) (elT true) F) := (hx.putN (show w.heap.size ≤ p by omega) _).putL (show w.heap.size ≤ q by omega) _ _
  have hS : Calls Try.prog 61 #[.pointer (some ⟨p, 0, none⟩), .int .i64 a, .bool rev, .bool mx] w1 fun e w' => e = .returned (.tuple #[]) ∧ ∃ d, w' = (w1.putE p (leafNd rs n q) (elT true) F).drewN d := hS
  clear e0 hself hL hx
  generalize w1.putE p (leafNd rs n q) (elT true) F = w2 at hS hN2 hL2 hx2
  go_wp2_with fail
  refine hS.mono ?_
  rintro e w3 ⟨rfl, d, rfl⟩
  clear hS hN
  have hc := hN2.cell2
  have hc' : w2.cell? ⟨p, 2, none⟩ = some (.int .i16 n) := hc
  clear hc
  have n64 : (n : Int) ≤ 64 := by omega
  go_wp2_with fail
  (refine Mix.wp_region_drw 7 [1] (by kernel_rfl) (by kernel_rfl) ?_; simp only [List.take_succ_cons, List.take_zero, List.drop_succ_cons, List.drop_zero]; (repeat (go_big_quiet_step ((go_at_call 62; exact Mix.calls_q (items_c _ p (ndE (leafNd rs n q) F) (hN2.drewN _) rfl) ⟨_, rfl⟩)))); refine wpQuiet_nil ?_)
  refine Mix.wpTl_append_list (.const (.slice none 0 0)) (.tmp 24) 40 rfl w.heap.size 3 i0 _ 1 8 Try.underlying40 hi0 hz0 hz1 hz2 rfl (by omega) intV (.slice none 0 0) [] ((List.range n).map g) rfl (World.Row.nil intV_len) ⟨q, 0, none⟩ n 64 (by simp) rfl ?_ (fun y _ => intV_one y) (by simp [maxLen]; omega) (by simp; omega) (hx2.drewN _).below.size ?_
  · intro j u hju
    rw [flat_int] at hju
    split at hju
    · rename_i hj
      obtain rfl := Option.some.inj hju
      have hadd : (⟨q, 0, none⟩ : Addr).add j = ⟨q, j, none⟩ := by unfold Addr.add; split <;> simp_all
      rw [hadd]
      show w2.cell? ⟨q, j, none⟩ = _
      have hh := hL2
      unfold ListAt at hh
      rw [cell_of_row w2 q j _ _ _ hh, lsCells_get _ _ (by omega), hg]
    · cases hju
  · intro v' w3 hr3 hgr3 _
    refine ⟨trivial, ?_⟩
    (simp only [Act.put, List.setIfInBounds_toArray, List.set_cons_zero, List.set_cons_succ, List.take_succ_cons, List.take_zero, List.drop_succ_cons, List.drop_zero])
    have hx3 := (hx2.drewN _).grown (c := w3) hgr3 (fun k hk => by simp [Value.ownBlock] at hk)
    (repeat (go_big_quiet_step (fail)))
    (refine wpQuiet_nil ?_; intro nq)
    go_wp2_with fail
    go_ret
    refine ⟨v', g, rfl, ?_, ?_, hx3.drewN _⟩
    · rw [HNN.out, HFF.out]; exact hg
    · rw [HNN.out]; exact hr3.ex ((Mix.Ex.refl _).drewN _)
end Go.Proofs.Ytenokcfpmfoekaa
