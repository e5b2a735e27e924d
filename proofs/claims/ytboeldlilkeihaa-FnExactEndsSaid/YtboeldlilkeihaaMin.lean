/- The contracts of minist and maxist: an item that is least, greatest, along an axis. -/
import Derived.Test.YtboeldlilkeihaaZScan
set_option linter.unusedSimpArgs false
set_option linter.unusedVariables false
namespace Go.Bx
/-- The least item. -/
def ExL (L : List (R × Int)) (x : R × Int) : Prop := x ∈ L ∧ ∀ y ∈ L, x.1.x0 ≤ y.1.x0
theorem bdL {r : R} {L : List (R × Int)} (h : Bd r (L.map (·.1))) {x : R × Int} (hx : ExL L x) : x.1.x0 = r.x0 := by
  obtain ⟨h1, ⟨s0, m0, e0⟩, ⟨s1, m1, e1⟩, ⟨s2, m2, e2⟩, ⟨s3, m3, e3⟩⟩ := h
  obtain ⟨y0, q0, f0⟩ := List.mem_map.1 m0
  obtain ⟨y1, q1, f1⟩ := List.mem_map.1 m1
  obtain ⟨y2, q2, f2⟩ := List.mem_map.1 m2
  obtain ⟨y3, q3, f3⟩ := List.mem_map.1 m3
  have k0 := hx.2 y0 q0
  have k1 := hx.2 y1 q1
  have k2 := hx.2 y2 q2
  have k3 := hx.2 y3 q3
  have k4 := h1 x.1 (List.mem_map.2 ⟨x, hx.1, rfl⟩)
  subst f0 f1 f2 f3
  omega
theorem pickL {h : Nat} {n : Nat} {E : Nat → R × El h} (hw : ∀ i, i < n → Bd (E i).1 ((its h (E i).1 (E i).2).map (·.1))) {j : Nat} (hj : j < n) (hm : ∀ i, i < n → (E j).1.x0 ≤ (E i).1.x0) {x : R × Int} (hx : ExL (its h (E j).1 (E j).2) x) : ExL (itsN h ⟨n, E⟩) x := by
  refine ⟨List.mem_flatMap.2 ⟨E j, mem_lst.2 ⟨j, hj, rfl⟩, hx.1⟩, fun y hy => ?_⟩
  obtain ⟨e, he, hy⟩ := List.mem_flatMap.1 hy
  obtain ⟨i, hi, rfl⟩ := mem_lst.1 he
  have h1 := bdL (hw j hj) hx
  have h2 := hm i hi
  have h3 := (hw i hi).1 y.1 (List.mem_map.2 ⟨y, hy, rfl⟩)
  omega
/-- The least item. -/
def ExB (L : List (R × Int)) (x : R × Int) : Prop := x ∈ L ∧ ∀ y ∈ L, x.1.y0 ≤ y.1.y0
theorem bdB {r : R} {L : List (R × Int)} (h : Bd r (L.map (·.1))) {x : R × Int} (hx : ExB L x) : x.1.y0 = r.y0 := by
  obtain ⟨h1, ⟨s0, m0, e0⟩, ⟨s1, m1, e1⟩, ⟨s2, m2, e2⟩, ⟨s3, m3, e3⟩⟩ := h
  obtain ⟨y0, q0, f0⟩ := List.mem_map.1 m0
  obtain ⟨y1, q1, f1⟩ := List.mem_map.1 m1
  obtain ⟨y2, q2, f2⟩ := List.mem_map.1 m2
  obtain ⟨y3, q3, f3⟩ := List.mem_map.1 m3
  have k0 := hx.2 y0 q0
  have k1 := hx.2 y1 q1
  have k2 := hx.2 y2 q2
  have k3 := hx.2 y3 q3
  have k4 := h1 x.1 (List.mem_map.2 ⟨x, hx.1, rfl⟩)
  subst f0 f1 f2 f3
  omega
theorem pickB {h : Nat} {n : Nat} {E : Nat → R × El h} (hw : ∀ i, i < n → Bd (E i).1 ((its h (E i).1 (E i).2).map (·.1))) {j : Nat} (hj : j < n) (hm : ∀ i, i < n → (E j).1.y0 ≤ (E i).1.y0) {x : R × Int} (hx : ExB (its h (E j).1 (E j).2) x) : ExB (itsN h ⟨n, E⟩) x := by
  refine ⟨List.mem_flatMap.2 ⟨E j, mem_lst.2 ⟨j, hj, rfl⟩, hx.1⟩, fun y hy => ?_⟩
  obtain ⟨e, he, hy⟩ := List.mem_flatMap.1 hy
  obtain ⟨i, hi, rfl⟩ := mem_lst.1 he
  have h1 := bdB (hw j hj) hx
  have h2 := hm i hi
  have h3 := (hw i hi).1 y.1 (List.mem_map.2 ⟨y, hy, rfl⟩)
  omega
/-- The greatest item. -/
def ExR (L : List (R × Int)) (x : R × Int) : Prop := x ∈ L ∧ ∀ y ∈ L, y.1.x1 ≤ x.1.x1
theorem bdR {r : R} {L : List (R × Int)} (h : Bd r (L.map (·.1))) {x : R × Int} (hx : ExR L x) : x.1.x1 = r.x1 := by
  obtain ⟨h1, ⟨s0, m0, e0⟩, ⟨s1, m1, e1⟩, ⟨s2, m2, e2⟩, ⟨s3, m3, e3⟩⟩ := h
  obtain ⟨y0, q0, f0⟩ := List.mem_map.1 m0
  obtain ⟨y1, q1, f1⟩ := List.mem_map.1 m1
  obtain ⟨y2, q2, f2⟩ := List.mem_map.1 m2
  obtain ⟨y3, q3, f3⟩ := List.mem_map.1 m3
  have k0 := hx.2 y0 q0
  have k1 := hx.2 y1 q1
  have k2 := hx.2 y2 q2
  have k3 := hx.2 y3 q3
  have k4 := h1 x.1 (List.mem_map.2 ⟨x, hx.1, rfl⟩)
  subst f0 f1 f2 f3
  omega
theorem pickR {h : Nat} {n : Nat} {E : Nat → R × El h} (hw : ∀ i, i < n → Bd (E i).1 ((its h (E i).1 (E i).2).map (·.1))) {j : Nat} (hj : j < n) (hm : ∀ i, i < n → (E i).1.x1 ≤ (E j).1.x1) {x : R × Int} (hx : ExR (its h (E j).1 (E j).2) x) : ExR (itsN h ⟨n, E⟩) x := by
  refine ⟨List.mem_flatMap.2 ⟨E j, mem_lst.2 ⟨j, hj, rfl⟩, hx.1⟩, fun y hy => ?_⟩
  obtain ⟨e, he, hy⟩ := List.mem_flatMap.1 hy
  obtain ⟨i, hi, rfl⟩ := mem_lst.1 he
  have h1 := bdR (hw j hj) hx
  have h2 := hm i hi
  have h3 := (hw i hi).1 y.1 (List.mem_map.2 ⟨y, hy, rfl⟩)
  omega
/-- The greatest item. -/
def ExT (L : List (R × Int)) (x : R × Int) : Prop := x ∈ L ∧ ∀ y ∈ L, y.1.y1 ≤ x.1.y1
theorem bdT {r : R} {L : List (R × Int)} (h : Bd r (L.map (·.1))) {x : R × Int} (hx : ExT L x) : x.1.y1 = r.y1 := by
  obtain ⟨h1, ⟨s0, m0, e0⟩, ⟨s1, m1, e1⟩, ⟨s2, m2, e2⟩, ⟨s3, m3, e3⟩⟩ := h
  obtain ⟨y0, q0, f0⟩ := List.mem_map.1 m0
  obtain ⟨y1, q1, f1⟩ := List.mem_map.1 m1
  obtain ⟨y2, q2, f2⟩ := List.mem_map.1 m2
  obtain ⟨y3, q3, f3⟩ := List.mem_map.1 m3
  have k0 := hx.2 y0 q0
  have k1 := hx.2 y1 q1
  have k2 := hx.2 y2 q2
  have k3 := hx.2 y3 q3
  have k4 := h1 x.1 (List.mem_map.2 ⟨x, hx.1, rfl⟩)
  subst f0 f1 f2 f3
  omega
theorem pickT {h : Nat} {n : Nat} {E : Nat → R × El h} (hw : ∀ i, i < n → Bd (E i).1 ((its h (E i).1 (E i).2).map (·.1))) {j : Nat} (hj : j < n) (hm : ∀ i, i < n → (E i).1.y1 ≤ (E j).1.y1) {x : R × Int} (hx : ExT (its h (E j).1 (E j).2) x) : ExT (itsN h ⟨n, E⟩) x := by
  refine ⟨List.mem_flatMap.2 ⟨E j, mem_lst.2 ⟨j, hj, rfl⟩, hx.1⟩, fun y hy => ?_⟩
  obtain ⟨e, he, hy⟩ := List.mem_flatMap.1 hy
  obtain ⟨i, hi, rfl⟩ := mem_lst.1 he
  have h1 := bdT (hw j hj) hx
  have h2 := hm i hi
  have h3 := (hw i hi).1 y.1 (List.mem_map.2 ⟨y, hy, rfl⟩)
  omega
end Go.Bx
namespace Go.Proofs.Ytboeldlilkeihaa
open Go.RowKit Go.Bx
/-- What minist does at a node of height h. -/
def EndCL (c : Int) (Z : Nat → Prop) (w0 : World) (h : Nat) : Prop :=
  ∀ (v : Value) (t : Nde (El h)) (s : Nat → Prop), ElAt c Z w0 (h + 1) v t s → 1 ≤ t.n → WfN h t → ∀ w, Mix.Ex w0 w →
    Calls Try.prog 68 #[v, .int .i64 0] w fun e w' => ∃ x, ExL (itsN h t) x ∧ e = .returned (.tuple #[.agg #[.int .i64 x.1.x0, .int .i64 x.1.y0], .agg #[.int .i64 x.1.x1, .int .i64 x.1.y1], .int .i64 x.2]) ∧ Mix.Ex w w'
set_option maxRecDepth 100000 in
set_option maxHeartbeats 1600000 in
theorem endLeafL (c : Int) (Z : Nat → Prop) (w0 : World) : EndCL c Z w0 0 := by
  rintro v ⟨n, E⟩ s ⟨p, q, ic, X, rfl, ⟨hN, hL, -, hpq, hn⟩, hE, he, -⟩ hn1 hW w hx
  dsimp only at hN hL hE he hn hn1
  subst hE
  dsimp only [leafB] at hN hL
  have HW := Lib.hid hW
  have HE := Lib.hid he
  have HNN := Lib.hid (hN.ex hx)
  have HLL := Lib.hid ((Chg.ex (S := fun _ => False) hx).list hL (fun h => h))
  clear he hW hN hL
  have n0 : (0 : Int) ≤ (n : Int) := by omega
  have n1 : (n : Int) ≤ 64 := by omega
  go_enter Try.func68, Try.ntmps68
  go_upto_region 3 with (fail)
  have hxa := ((Mix.Ex.refl w).alloc (.cells #[.int .i64 0, .int .i64 0] 28)).alloc (.cells #[.int .i64 0, .int .i64 0] 28)
  have n5 := ((Mix.Ex.refl (w.alloc (.cells #[.int .i64 0, .int .i64 0] 28))).alloc (.cells #[.int .i64 0, .int .i64 0] 28)).obj (heap_alloc_new w (.cells #[.int .i64 0, .int .i64 0] 28))
  have n6 := heap_alloc_new (w.alloc (.cells #[.int .i64 0, .int .i64 0] 28)) (.cells #[.int .i64 0, .int .i64 0] 28)
  rw [World.size_alloc] at n6
  change Code.wp _ _ _ _ ((w.alloc (.cells #[.int .i64 0, .int .i64 0] 28)).alloc (.cells #[.int .i64 0, .int .i64 0] 28))
  generalize ((w.alloc (.cells #[.int .i64 0, .int .i64 0] 28)).alloc (.cells #[.int .i64 0, .int .i64 0] 28)) = w1 at hxa n5 n6 ⊢
  obtain ⟨B5, hB5⟩ : ∃ B5, w.heap.size = B5 := ⟨_, rfl⟩
  obtain ⟨B6, hB6⟩ : ∃ B6, w.heap.size + 1 = B6 := ⟨_, rfl⟩
  rw [hB6] at n6 ⊢
  rw [hB5] at n5 ⊢
  have c2 : w1.cell? ⟨p, 2, none⟩ = some (.int .i16 n) := (HNN.out.ex hxa).cell2
  have HXA := Lib.hid hxa
  have N5 := Lib.hid n5
  have N6 := Lib.hid n6
  clear hxa n5 n6
  (refine Mix.wp_region_dr (by kernel_rfl) (by kernel_rfl) ?_; (repeat (go_big_quiet_step (fail))); refine wpQuiet_nil ?_; intro nq)
  clear c2
  go_wp2_with fail
  go_loopw [7, 8, 20] (fun a b i wr => ∃ jj : Nat, jj ≤ n ∧ i = .int .i64 jj ∧ ((jj = 0 ∧ a = .int .i64 0 ∧ b = .int .i64 0) ∨ ∃ jm : Nat, jm < jj ∧ a = .int .i64 jm ∧ b = .int .i64 (X jm).1.x0 ∧ Hid (∀ i, i < jj → (X jm).1.x0 ≤ (X i).1.x0)) ∧ Mix.Ex w1 wr) (fun _ _ i _ => n - (intOf i).toNat)
  case atStart => exact ⟨0, by omega, rfl, .inl ⟨rfl, rfl, rfl⟩, (Mix.Ex.refl _).drewN _⟩
  case round =>
    obtain ⟨jj, hj, rfl, hcase, hxr⟩ := hrel
    by_cases hlt : jj < n
    case neg =>
      have hjn : jj = n := by omega
      subst hjn
      rcases hcase with ⟨h0, -⟩ | ⟨jm, hjm, rfl, rfl, HMN⟩
      · omega
      have hxw := HXA.out.trans hxr
      have hNr := HNN.out.ex hxw
      have hLr : ListAt wr q (elT true) (fE (mp An.v X)) := (Chg.ex (S := fun _ => False) hxw).list HLL.out (fun h => h)
      have hex : ExL (itsN 0 ⟨jj, mp An.t X⟩) ((X jm).1, ((X jm).2.t : Int)) := by
        refine pickL (j := jm) (fun i hi => ?_) hjm (fun i hi => HMN.out i hi) ⟨by simp [its, mp], fun y hy => ?_⟩
        · exact (HW.out.2 (mp An.t X i) (mem_lst.2 ⟨i, hi, rfl⟩)).bd
        · have : y = ((X jm).1, ((X jm).2.t : Int)) := by simpa [its, mp] using hy
          subst this
          exact Int.le_refl _
      have hvx : (X jm).2.v = .int .i64 ((X jm).2.t : Int) := (HE.out (X jm) (mem_lst.2 ⟨jm, hjm, rfl⟩)).1
      have hcl : wr.cell? ⟨q, jm, none⟩ = some (.int .i64 ((X jm).2.t : Int)) := by rw [hLr.cell (i := jm) (by omega)]; show some ((X jm).2.v) = _; rw [hvx]
      have r0 : wr.cell? ⟨p, 3 + jm * 4, none⟩ = some (.int .i64 (X jm).1.x0) := cell_rcell hNr (i := jm) (j := 0) (by omega) (by omega)
      have r1 : wr.cell? ⟨p, 3 + jm * 4 + 1, none⟩ = some (.int .i64 (X jm).1.y0) := cell_rcell hNr (i := jm) (j := 1) (by omega) (by omega)
      have r2 : wr.cell? ⟨p, 3 + jm * 4 + 2, none⟩ = some (.int .i64 (X jm).1.x1) := cell_rcell hNr (i := jm) (j := 2) (by omega) (by omega)
      have r3 : wr.cell? ⟨p, 3 + jm * 4 + 3, none⟩ = some (.int .i64 (X jm).1.y1) := cell_rcell hNr (i := jm) (j := 3) (by omega) (by omega)
      have hLf := leaf_c wr p _ hNr
      have hIt := items_c (wr.drewN 1) p _ (hNr.drewN 1) rfl
      dsimp only at hLf hIt
      have n5 := hxr.obj N5.out
      have n6 := hxr.obj N6.out
      have hpl := hNr.lt
      have hpB5 : p ≠ B5 := by have := HNN.out.lt; omega
      have hpB6 : p ≠ B6 := by have := HNN.out.lt; omega
      have hqB5 : q ≠ B5 := by have := (Array.getElem?_eq_some_iff.1 HLL.out).1; omega
      have hqB6 : q ≠ B6 := by have := (Array.getElem?_eq_some_iff.1 HLL.out).1; omega
      have HEX := Lib.hid hex
      have hbb : B5 ≠ B6 := by omega
      generalize ((X jm).2.t : Int) = y at hcl HEX
      generalize (X jm).1 = r at r0 r1 r2 r3 HEX
      go_wp2_with fail
      refine hLf.mono ?_
      rintro e w2 ⟨rfl, hw⟩
      have hw := hw.symm
      subst hw
      go_upto_region 10 with (fail)
      have HC := And.intro (show (wr.drewN 1).cell? _ = _ from r0) (And.intro (show (wr.drewN 1).cell? _ = _ from r1) (And.intro (show (wr.drewN 1).cell? _ = _ from r2) (And.intro (show (wr.drewN 1).cell? _ = _ from r3) (show (wr.drewN 1).cell? _ = _ from hcl))))
      refine wp_region_K (fun W => W.cell? ⟨p, 3 + jm * 4, none⟩ = some (.int .i64 r.x0) ∧ W.cell? ⟨p, 3 + jm * 4 + 1, none⟩ = some (.int .i64 r.y0) ∧ W.cell? ⟨p, 3 + jm * 4 + 2, none⟩ = some (.int .i64 r.x1) ∧ W.cell? ⟨p, 3 + jm * 4 + 3, none⟩ = some (.int .i64 r.y1) ∧ W.cell? ⟨q, jm, none⟩ = some (.int .i64 y)) 21 (by kernel_rfl) ?_
      change wpAnyK _ _ _ _ _ 22 (Array.replicate 22 false) _ _
      have hjm64 : (jm : Int) < 64 := by omega
      (refine wpAnyK_take (i := 0) (oi := ?_) (v := ?_) ?_ ?_ ?_ ?_ ?_ ?_ ?_ ?_ ?_; rotate_left 2; (focus (simp only [List.getElem?_toArray, List.getElem?_cons_zero, List.getElem?_cons_succ]; rfl)); (focus kernel_rfl); (focus kernel_rfl); (focus kernel_rfl); (focus kernel_rfl); (focus exact fun _ _ _ h => h); (focus (refine Or.inl ⟨by rfl, ?_⟩; intro W hW; (try dsimp only at hW); go_simp; try with_reducible rfl)); (focus exact HC); (try simp only [Act.put, List.setIfInBounds_toArray, List.set_cons_zero, List.set_cons_succ]))
      (refine wpAnyK_take (i := 1) (oi := ?_) (v := ?_) ?_ ?_ ?_ ?_ ?_ ?_ ?_ ?_ ?_; rotate_left 2; (focus (simp only [List.getElem?_toArray, List.getElem?_cons_zero, List.getElem?_cons_succ]; rfl)); (focus kernel_rfl); (focus kernel_rfl); (focus kernel_rfl); (focus kernel_rfl); (focus exact fun _ _ _ h => h); (focus (refine Or.inl ⟨by rfl, ?_⟩; intro W hW; (try dsimp only at hW); go_simp; try with_reducible rfl)); (focus exact HC); (try simp only [Act.put, List.setIfInBounds_toArray, List.set_cons_zero, List.set_cons_succ]))
      (refine wpAnyK_take (i := 2) (oi := ?_) (v := ?_) ?_ ?_ ?_ ?_ ?_ ?_ ?_ ?_ ?_; rotate_left 2; (focus (simp only [List.getElem?_toArray, List.getElem?_cons_zero, List.getElem?_cons_succ]; rfl)); (focus kernel_rfl); (focus kernel_rfl); (focus kernel_rfl); (focus kernel_rfl); (focus exact fun _ _ _ h => h); (focus (refine Or.inl ⟨by rfl, ?_⟩; intro W hW; (try dsimp only at hW); go_simp; try with_reducible rfl)); (focus exact HC); (try simp only [Act.put, List.setIfInBounds_toArray, List.set_cons_zero, List.set_cons_succ]))
      (refine wpAnyK_take (i := 3) (oi := ?_) (v := ?_) ?_ ?_ ?_ ?_ ?_ ?_ ?_ ?_ ?_; rotate_left 2; (focus (simp only [List.getElem?_toArray, List.getElem?_cons_zero, List.getElem?_cons_succ]; rfl)); (focus kernel_rfl); (focus kernel_rfl); (focus kernel_rfl); (focus kernel_rfl); (focus exact fun _ _ _ h => h); (focus (refine Or.inl ⟨by rfl, ?_⟩; intro W hW; (try dsimp only at hW); go_simp; try with_reducible rfl)); (focus exact HC); (try simp only [Act.put, List.setIfInBounds_toArray, List.set_cons_zero, List.set_cons_succ]))
      (refine wpAnyK_take (i := 4) (oi := ?_) (v := ?_) ?_ ?_ ?_ ?_ ?_ ?_ ?_ ?_ ?_; rotate_left 2; (focus (simp only [List.getElem?_toArray, List.getElem?_cons_zero, List.getElem?_cons_succ]; rfl)); (focus kernel_rfl); (focus kernel_rfl); (focus kernel_rfl); (focus kernel_rfl); (focus exact fun _ _ _ h => h); (focus (refine Or.inl ⟨by rfl, ?_⟩; intro W hW; (try dsimp only at hW); go_simp; try with_reducible rfl)); (focus exact HC); (try simp only [Act.put, List.setIfInBounds_toArray, List.set_cons_zero, List.set_cons_succ]))
      (refine wpAnyK_take (i := 5) (oi := ?_) (v := ?_) ?_ ?_ ?_ ?_ ?_ ?_ ?_ ?_ ?_; rotate_left 2; (focus (simp only [List.getElem?_toArray, List.getElem?_cons_zero, List.getElem?_cons_succ]; rfl)); (focus kernel_rfl); (focus kernel_rfl); (focus kernel_rfl); (focus kernel_rfl); (focus exact fun _ _ _ h => h); (focus (refine Or.inl ⟨by rfl, ?_⟩; intro W hW; (try dsimp only at hW); go_simp; try with_reducible rfl)); (focus exact HC); (try simp only [Act.put, List.setIfInBounds_toArray, List.set_cons_zero, List.set_cons_succ]))
      (refine wpAnyK_take (i := 6) (oi := ?_) (v := ?_) ?_ ?_ ?_ ?_ ?_ ?_ ?_ ?_ ?_; rotate_left 2; (focus (simp only [List.getElem?_toArray, List.getElem?_cons_zero, List.getElem?_cons_succ]; rfl)); (focus kernel_rfl); (focus kernel_rfl); (focus kernel_rfl); (focus kernel_rfl); (focus exact fun _ _ _ h => h); (focus (refine Or.inl ⟨by rfl, ?_⟩; intro W hW; (try dsimp only at hW); go_simp; try with_reducible rfl)); (focus exact HC); (try simp only [Act.put, List.setIfInBounds_toArray, List.set_cons_zero, List.set_cons_succ]))
      (refine wpAnyK_take (i := 7) (oi := ?_) (v := ?_) ?_ ?_ ?_ ?_ ?_ ?_ ?_ ?_ ?_; rotate_left 2; (focus (simp only [List.getElem?_toArray, List.getElem?_cons_zero, List.getElem?_cons_succ]; rfl)); (focus kernel_rfl); (focus kernel_rfl); (focus kernel_rfl); (focus kernel_rfl); (focus exact fun _ _ _ h => h); (focus (refine Or.inl ⟨by rfl, ?_⟩; intro W hW; (try dsimp only at hW); go_simp; try with_reducible rfl)); (focus exact HC); (try simp only [Act.put, List.setIfInBounds_toArray, List.set_cons_zero, List.set_cons_succ]))
      (refine wpAnyK_take (i := 8) (oi := ?_) (v := ?_) ?_ ?_ ?_ ?_ ?_ ?_ ?_ ?_ ?_; rotate_left 2; (focus (simp only [List.getElem?_toArray, List.getElem?_cons_zero, List.getElem?_cons_succ]; rfl)); (focus kernel_rfl); (focus kernel_rfl); (focus kernel_rfl); (focus kernel_rfl); (focus exact fun _ _ _ h => h); (focus (refine Or.inl ⟨by rfl, ?_⟩; intro W hW; (try dsimp only at hW); go_simp; try with_reducible rfl)); (focus exact HC); (try simp only [Act.put, List.setIfInBounds_toArray, List.set_cons_zero, List.set_cons_succ]))
      (refine wpAnyK_take (i := 9) (oi := ?_) (v := ?_) ?_ ?_ ?_ ?_ ?_ ?_ ?_ ?_ ?_; rotate_left 2; (focus (simp only [List.getElem?_toArray, List.getElem?_cons_zero, List.getElem?_cons_succ]; rfl)); (focus kernel_rfl); (focus kernel_rfl); (focus kernel_rfl); (focus kernel_rfl); (focus exact fun _ _ _ h => h); (focus (refine Or.inl ⟨by rfl, ?_⟩; intro W hW; (try dsimp only at hW); go_simp; try with_reducible rfl)); (focus exact HC); (try simp only [Act.put, List.setIfInBounds_toArray, List.set_cons_zero, List.set_cons_succ]))
      (refine wpAnyK_take (i := 10) (oi := ?_) (v := ?_) ?_ ?_ ?_ ?_ ?_ ?_ ?_ ?_ ?_; rotate_left 2; (focus (simp only [List.getElem?_toArray, List.getElem?_cons_zero, List.getElem?_cons_succ]; rfl)); (focus kernel_rfl); (focus kernel_rfl); (focus kernel_rfl); (focus kernel_rfl); (focus exact fun _ _ _ h => h); (focus (refine Or.inl ⟨by rfl, ?_⟩; intro W hW; (try dsimp only at hW); go_simp; try with_reducible rfl)); (focus exact HC); (try simp only [Act.put, List.setIfInBounds_toArray, List.set_cons_zero, List.set_cons_succ]))
      (refine wpAnyK_take (i := 11) (oi := ?_) (v := ?_) ?_ ?_ ?_ ?_ ?_ ?_ ?_ ?_ ?_; rotate_left 2; (focus (simp only [List.getElem?_toArray, List.getElem?_cons_zero, List.getElem?_cons_succ]; rfl)); (focus kernel_rfl); (focus kernel_rfl); (focus kernel_rfl); (focus kernel_rfl); (focus exact fun _ _ _ h => h); (focus (refine Or.inl ⟨by rfl, ?_⟩; intro W hW; (try dsimp only at hW); go_simp; try with_reducible rfl)); (focus exact HC); (try simp only [Act.put, List.setIfInBounds_toArray, List.set_cons_zero, List.set_cons_succ]))
      (refine wpAnyK_take (i := 12) (oi := ?_) (v := ?_) ?_ ?_ ?_ ?_ ?_ ?_ ?_ ?_ ?_; rotate_left 2; (focus (simp only [List.getElem?_toArray, List.getElem?_cons_zero, List.getElem?_cons_succ]; rfl)); (focus kernel_rfl); (focus kernel_rfl); (focus kernel_rfl); (focus kernel_rfl); (focus exact fun _ _ _ h => h); (focus (refine Or.inl ⟨by rfl, ?_⟩; intro W hW; (try dsimp only at hW); go_simp; try with_reducible rfl)); (focus exact HC); (try simp only [Act.put, List.setIfInBounds_toArray, List.set_cons_zero, List.set_cons_succ]))
      (refine wpAnyK_take (i := 13) (oi := ?_) (v := ?_) ?_ ?_ ?_ ?_ ?_ ?_ ?_ ?_ ?_; rotate_left 2; (focus (simp only [List.getElem?_toArray, List.getElem?_cons_zero, List.getElem?_cons_succ]; rfl)); (focus kernel_rfl); (focus kernel_rfl); (focus kernel_rfl); (focus kernel_rfl); (focus exact fun _ _ _ h => h); (focus (refine Or.inl ⟨by rfl, ?_⟩; intro W hW; (try dsimp only at hW); go_simp; try with_reducible rfl)); (focus exact HC); (try simp only [Act.put, List.setIfInBounds_toArray, List.set_cons_zero, List.set_cons_succ]))
      (refine wpAnyK_take (i := 14) (oi := ?_) (v := ?_) ?_ ?_ ?_ ?_ ?_ ?_ ?_ ?_ ?_; rotate_left 2; (focus (simp only [List.getElem?_toArray, List.getElem?_cons_zero, List.getElem?_cons_succ]; rfl)); (focus kernel_rfl); (focus kernel_rfl); (focus kernel_rfl); (focus kernel_rfl); (focus exact fun _ _ _ h => h); (focus (refine Or.inl ⟨by rfl, ?_⟩; intro W hW; (try dsimp only at hW); go_simp; try with_reducible rfl)); (focus exact HC); (try simp only [Act.put, List.setIfInBounds_toArray, List.set_cons_zero, List.set_cons_succ]))
      (refine wpAnyK_take (i := 16) (oi := ?_) (v := ?_) ?_ ?_ ?_ ?_ ?_ ?_ ?_ ?_ ?_; rotate_left 2; (focus (simp only [List.getElem?_toArray, List.getElem?_cons_zero, List.getElem?_cons_succ]; rfl)); (focus kernel_rfl); (focus kernel_rfl); (focus kernel_rfl); (focus kernel_rfl); (focus exact fun _ _ _ h => h); (focus (refine Or.inl ⟨by rfl, ?_⟩; intro W hW; (try dsimp only at hW); go_simp; try with_reducible rfl)); (focus exact HC); (try simp only [Act.put, List.setIfInBounds_toArray, List.set_cons_zero, List.set_cons_succ]))
      have m5 : (wr.drewN 1).heap[B5]? = _ := n5
      have m6 : (wr.drewN 1).heap[B6]? = _ := n6
      have HXW := Lib.hid (hxw.drewN 1)
      clear r0 r1 r2 r3 hcl hLf n5 n6 hxw hxr hNr hLr
      generalize wr.drewN 1 = wA at HC m5 m6 HXW hIt ⊢
      (refine wpAnyK_one (i := 15) (o := ?_) ?_ ?_ ?_ (fun K hK => ?_); rotate_left 1; (focus kernel_rfl); (focus (simp only [List.getElem?_toArray, List.getElem?_cons_zero, List.getElem?_cons_succ]; rfl)); (focus rfl))
      go_simp
      refine hIt.mono ?_
      rintro e w3 ⟨rfl, hw⟩
      have hw := hw.symm
      subst hw
      refine hK _ _ (fun _ => HC) ?_
      clear hK K hIt
      (try simp only [Act.put, List.setIfInBounds_toArray, List.set_cons_zero, List.set_cons_succ])
      (refine wpAnyK_take (i := 17) (oi := ?_) (v := ?_) ?_ ?_ ?_ ?_ ?_ ?_ ?_ ?_ ?_; rotate_left 2; (focus (simp only [List.getElem?_toArray, List.getElem?_cons_zero, List.getElem?_cons_succ]; rfl)); (focus kernel_rfl); (focus kernel_rfl); (focus kernel_rfl); (focus kernel_rfl); (focus exact fun _ _ _ h => h); (focus (refine Or.inl ⟨by rfl, ?_⟩; intro W hW; (try dsimp only at hW); go_simp; try with_reducible rfl)); (focus exact HC); (try simp only [Act.put, List.setIfInBounds_toArray, List.set_cons_zero, List.set_cons_succ]))
      (refine wpAnyK_take (i := 18) (oi := ?_) (v := ?_) ?_ ?_ ?_ ?_ ?_ ?_ ?_ ?_ ?_; rotate_left 2; (focus (simp only [List.getElem?_toArray, List.getElem?_cons_zero, List.getElem?_cons_succ]; rfl)); (focus kernel_rfl); (focus kernel_rfl); (focus kernel_rfl); (focus kernel_rfl); (focus exact fun _ _ _ h => h); (focus (refine Or.inl ⟨by rfl, ?_⟩; intro W hW; (try dsimp only at hW); go_simp; try with_reducible rfl)); (focus exact HC); (try simp only [Act.put, List.setIfInBounds_toArray, List.set_cons_zero, List.set_cons_succ]))
      have s0 := cellOf m5 0
      have s1 := cellOf m5 1
      simp only [List.getElem?_toArray, List.getElem?_cons_zero, List.getElem?_cons_succ] at s0 s1
      have f0 := frzOf m5 0
      have f1 := frzOf m5 1
      obtain ⟨k0, k1, k2, k3, k4⟩ := HC
      have cc : ∀ {b o : Nat} {u : Value}, b ≠ B5 → wA.cell? ⟨b, o, none⟩ = some u → ((wA.setCell ⟨B5, 0, none⟩ (.int .i64 r.x0)).setCell ⟨B5, 1, none⟩ (.int .i64 r.y0)).cell? ⟨b, o, none⟩ = some u := fun {b o u} hb h => by
        unfold World.cell? at h ⊢
        dsimp only at h ⊢
        rw [setCell_ne 1 hb, setCell_ne 0 hb]; exact h
      have HC2 := And.intro (cc hpB5 k0) (And.intro (cc hpB5 k1) (And.intro (cc hpB5 k2) (And.intro (cc hpB5 k3) (cc hqB5 k4))))
      have z5 := setCell_obj (setCell_obj m5 0 (.int .i64 r.x0)) 1 (.int .i64 r.y0)
      have z6 : ((wA.setCell ⟨B5, 0, none⟩ (.int .i64 r.x0)).setCell ⟨B5, 1, none⟩ (.int .i64 r.y0)).heap[B6]? = _ := ((setCell_ne 1 (Ne.symm hbb) _ none).trans (setCell_ne 0 (Ne.symm hbb) _ none)).trans m6
      have HX2 := Lib.hid ((HXW.out.setCell (p := ⟨B5, 0, none⟩) (by dsimp only; omega) (.int .i64 r.x0)).setCell (p := ⟨B5, 1, none⟩) (by dsimp only; omega) (.int .i64 r.y0))
      simp only [List.setIfInBounds_toArray, List.set_cons_zero, List.set_cons_succ] at z5
      clear k0 k1 k2 k3 k4 cc
      (refine wpAnyK_one (i := 19) (o := ?_) ?_ ?_ ?_ (fun K hK => ?_); rotate_left 1; (focus kernel_rfl); (focus (simp only [List.getElem?_toArray, List.getElem?_cons_zero, List.getElem?_cons_succ]; rfl)); (focus rfl))
      go_simp
      generalize ((wA.setCell ⟨B5, 0, none⟩ (.int .i64 r.x0)).setCell ⟨B5, 1, none⟩ (.int .i64 r.y0)) = wB at HC2 z5 z6 HX2 hK ⊢
      refine hK _ _ (fun _ => HC2) ?_
      clear hK K s0 s1 f0 f1 m5 m6
      have s0 := cellOf z6 0
      have s1 := cellOf z6 1
      simp only [List.getElem?_toArray, List.getElem?_cons_zero, List.getElem?_cons_succ] at s0 s1
      have f0 := frzOf z6 0
      have f1 := frzOf z6 1
      obtain ⟨k0, k1, k2, k3, k4⟩ := HC2
      have cc : ∀ {b o : Nat} {u : Value}, b ≠ B6 → wB.cell? ⟨b, o, none⟩ = some u → ((wB.setCell ⟨B6, 0, none⟩ (.int .i64 r.x1)).setCell ⟨B6, 1, none⟩ (.int .i64 r.y1)).cell? ⟨b, o, none⟩ = some u := fun {b o u} hb h => by
        unfold World.cell? at h ⊢
        dsimp only at h ⊢
        rw [setCell_ne 1 hb, setCell_ne 0 hb]; exact h
      have HC3 := And.intro (cc hpB6 k0) (And.intro (cc hpB6 k1) (And.intro (cc hpB6 k2) (And.intro (cc hpB6 k3) (cc hqB6 k4))))
      have y6 := setCell_obj (setCell_obj z6 0 (.int .i64 r.x1)) 1 (.int .i64 r.y1)
      have y5 : ((wB.setCell ⟨B6, 0, none⟩ (.int .i64 r.x1)).setCell ⟨B6, 1, none⟩ (.int .i64 r.y1)).heap[B5]? = _ := ((setCell_ne 1 hbb _ none).trans (setCell_ne 0 hbb _ none)).trans z5
      have HX3 := Lib.hid ((HX2.out.setCell (p := ⟨B6, 0, none⟩) (by dsimp only; omega) (.int .i64 r.x1)).setCell (p := ⟨B6, 1, none⟩) (by dsimp only; omega) (.int .i64 r.y1))
      simp only [List.setIfInBounds_toArray, List.set_cons_zero, List.set_cons_succ] at y6
      clear k0 k1 k2 k3 k4 cc
      (refine wpAnyK_one (i := 20) (o := ?_) ?_ ?_ ?_ (fun K hK => ?_); rotate_left 1; (focus kernel_rfl); (focus (simp only [List.getElem?_toArray, List.getElem?_cons_zero, List.getElem?_cons_succ]; rfl)); (focus rfl))
      go_simp
      generalize ((wB.setCell ⟨B6, 0, none⟩ (.int .i64 r.x1)).setCell ⟨B6, 1, none⟩ (.int .i64 r.y1)) = wC at HC3 y5 y6 HX3 hK ⊢
      refine hK _ _ (fun _ => HC3) ?_
      clear hK K s0 s1 f0 f1 z5 z6
      (refine wpAnyK_one (i := 21) (o := ?_) ?_ ?_ ?_ (fun K hK => ?_); rotate_left 1; (focus kernel_rfl); (focus (simp only [List.getElem?_toArray, List.getElem?_cons_zero, List.getElem?_cons_succ]; rfl)); (focus rfl))
      go_simp
      refine hK _ _ (fun _ => HC3) ?_
      clear hK K HC3
      refine wpAnyK_done (by kernel_rfl) ?_ _
      have a0 := cellOf y5 0
      have a1 := cellOf y5 1
      have a2 := cellOf y6 0
      have a3 := cellOf y6 1
      simp only [List.getElem?_toArray, List.getElem?_cons_zero, List.getElem?_cons_succ] at a0 a1 a2 a3
      clear y5 y6
      go_wp2_with fail
      refine bodyPost_ret (v := .tuple #[.agg #[.int .i64 r.x0, .int .i64 r.y0], .agg #[.int .i64 r.x1, .int .i64 r.y1], .int .i64 y]) (by simp [results, Try.results68, go_sem, a0, a1, a2, a3]) rfl (by first | exact ⟨r, y, HEX.out, rfl, HX3.out⟩ | exact ⟨(r, y), HEX.out, rfl, HX3.out⟩)
    have hNr := HNN.out.ex (HXA.out.trans hxr)
    have r0 : wr.cell? ⟨p, 3 + jj * 4, none⟩ = some (.int .i64 (X jj).1.x0) := cell_rcell hNr (i := jj) (j := 0) (by omega) (by omega)
    have r1 : wr.cell? ⟨p, 3 + jj * 4 + 1, none⟩ = some (.int .i64 (X jj).1.y0) := cell_rcell hNr (i := jj) (j := 1) (by omega) (by omega)
    have r2 : wr.cell? ⟨p, 3 + jj * 4 + 2, none⟩ = some (.int .i64 (X jj).1.x1) := cell_rcell hNr (i := jj) (j := 2) (by omega) (by omega)
    have r3 : wr.cell? ⟨p, 3 + jj * 4 + 3, none⟩ = some (.int .i64 (X jj).1.y1) := cell_rcell hNr (i := jj) (j := 3) (by omega) (by omega)
    have hxb := hxr.alloc (.cells (boxV (X jj).1).toArray 91)
    have nb := heap_alloc_new wr (.cells (boxV (X jj).1).toArray 91)
    clear hNr hxr
    go_upto_region 6 with (fail)
    change Code.wp _ _ _ _ (wr.alloc (.cells (boxV (X jj).1).toArray 91))
    generalize hBb : wr.heap.size = Bb at nb ⊢
    generalize (wr.alloc (.cells (boxV (X jj).1).toArray 91)) = w3 at hxb nb ⊢
    have q0 := cellOf nb 0
    have q1 := cellOf nb 1
    have q2 := cellOf nb 2
    have q3 := cellOf nb 3
    simp only [boxV, List.getElem?_toArray, List.getElem?_cons_zero, List.getElem?_cons_succ] at q0 q1 q2 q3
    have hbl := (Array.getElem?_eq_some_iff.1 nb).1
    have HXB := Lib.hid hxb
    clear r0 r1 r2 r3 hxb nb
    rcases hcase with ⟨h0, rfl, rfl⟩ | ⟨jm, hjm, rfl, rfl, HMN⟩
    · have hmn : Hid (∀ i, i < jj + 1 → (X jj).1.x0 ≤ (X i).1.x0) := Lib.hid fun i hi => by
        have : i = jj := by omega
        subst this; exact Int.le_refl _
      have e0 : ((jj : Int) == 0) = true := by simp [h0]
      have H0 := Lib.hid h0
      clear h0
      go_upto_region 7 with (fail)
      (refine Mix.wp_region_dr (by kernel_rfl) (by kernel_rfl) ?_; (repeat (go_big_quiet_step (fail))); refine wpQuiet_nil ?_; intro nq)
      clear q0 q1 q2 q3
      go_wp2_with fail
      go_roundw
      case measure => simp [intOf]; omega
      case rel => exact ⟨jj + 1, by omega, by go_num, .inr ⟨jj, by omega, rfl, rfl, hmn⟩, HXB.out.drewN _⟩
    · have e0 : ((jj : Int) == 0) = false := by simp; omega
      by_cases hc : (X jj).1.x0 < (X jm).1.x0
      · have hd : decide ((X jj).1.x0 < (X jm).1.x0) = true := decide_eq_true hc
        have hmn : Hid (∀ i, i < jj + 1 → (X jj).1.x0 ≤ (X i).1.x0) := Lib.hid fun i hi => by
          by_cases hij : i = jj
          · subst hij; exact Int.le_refl _
          · have := HMN.out i (by omega); omega
        have H0 := Lib.hid hc
        clear hc
        go_upto_region 7 with (fail)
        (refine Mix.wp_region_dr (by kernel_rfl) (by kernel_rfl) ?_; (repeat (go_big_quiet_step (fail))); refine wpQuiet_nil ?_; intro nq)
        clear q0 q1 q2 q3
        go_wp2_with fail
        go_roundw
        case measure => simp [intOf]; omega
        case rel => exact ⟨jj + 1, by omega, by go_num, .inr ⟨jj, by omega, rfl, rfl, hmn⟩, HXB.out.drewN _⟩
      · have hd : decide ((X jj).1.x0 < (X jm).1.x0) = false := decide_eq_false hc
        have hmn : Hid (∀ i, i < jj + 1 → (X jm).1.x0 ≤ (X i).1.x0) := Lib.hid fun i hi => by
          by_cases hij : i = jj
          · subst hij; omega
          · exact HMN.out i (by omega)
        have H0 := Lib.hid hc
        clear hc
        go_wp2_with fail
        go_roundw
        case measure => simp [intOf]; omega
        case rel => exact ⟨jj + 1, by omega, by go_num, .inr ⟨jm, by omega, rfl, rfl, hmn⟩, HXB.out⟩
set_option maxRecDepth 100000 in
set_option maxHeartbeats 1600000 in
theorem endBraL (c : Int) (Z : Nat → Prop) (w0 : World) (h : Nat) (IH : EndCL c Z w0 h) : EndCL c Z w0 (h + 1) := by
  rintro v ⟨n, E⟩ s ⟨p, q, ic, X, rfl, ⟨hN, hL, -, hpq, hn⟩, hE, he, -⟩ hn1 hW w hx
  dsimp only at hN hL hE he hn hn1
  subst hE
  dsimp only [leafB] at hN hL
  have HW := Lib.hid hW
  have HE := Lib.hid he
  have HNN := Lib.hid (hN.ex hx)
  have HLL := Lib.hid ((Chg.ex (S := fun _ => False) hx).list hL (fun h => h))
  clear he hW hN hL
  have n0 : (0 : Int) ≤ (n : Int) := by omega
  have n1 : (n : Int) ≤ 64 := by omega
  go_enter Try.func68, Try.ntmps68
  go_upto_region 3 with (fail)
  have hxa := ((Mix.Ex.refl w).alloc (.cells #[.int .i64 0, .int .i64 0] 28)).alloc (.cells #[.int .i64 0, .int .i64 0] 28)
  have n5 := ((Mix.Ex.refl (w.alloc (.cells #[.int .i64 0, .int .i64 0] 28))).alloc (.cells #[.int .i64 0, .int .i64 0] 28)).obj (heap_alloc_new w (.cells #[.int .i64 0, .int .i64 0] 28))
  have n6 := heap_alloc_new (w.alloc (.cells #[.int .i64 0, .int .i64 0] 28)) (.cells #[.int .i64 0, .int .i64 0] 28)
  rw [World.size_alloc] at n6
  change Code.wp _ _ _ _ ((w.alloc (.cells #[.int .i64 0, .int .i64 0] 28)).alloc (.cells #[.int .i64 0, .int .i64 0] 28))
  generalize ((w.alloc (.cells #[.int .i64 0, .int .i64 0] 28)).alloc (.cells #[.int .i64 0, .int .i64 0] 28)) = w1 at hxa n5 n6 ⊢
  obtain ⟨B5, hB5⟩ : ∃ B5, w.heap.size = B5 := ⟨_, rfl⟩
  obtain ⟨B6, hB6⟩ : ∃ B6, w.heap.size + 1 = B6 := ⟨_, rfl⟩
  rw [hB6] at n6 ⊢
  rw [hB5] at n5 ⊢
  have c2 : w1.cell? ⟨p, 2, none⟩ = some (.int .i16 n) := (HNN.out.ex hxa).cell2
  have HXA := Lib.hid hxa
  have N5 := Lib.hid n5
  have N6 := Lib.hid n6
  clear hxa n5 n6
  (refine Mix.wp_region_dr (by kernel_rfl) (by kernel_rfl) ?_; (repeat (go_big_quiet_step (fail))); refine wpQuiet_nil ?_; intro nq)
  clear c2
  go_wp2_with fail
  go_loopw [7, 8, 20] (fun a b i wr => ∃ jj : Nat, jj ≤ n ∧ i = .int .i64 jj ∧ ((jj = 0 ∧ a = .int .i64 0 ∧ b = .int .i64 0) ∨ ∃ jm : Nat, jm < jj ∧ a = .int .i64 jm ∧ b = .int .i64 (X jm).1.x0 ∧ Hid (∀ i, i < jj → (X jm).1.x0 ≤ (X i).1.x0)) ∧ Mix.Ex w1 wr) (fun _ _ i _ => n - (intOf i).toNat)
  case atStart => exact ⟨0, by omega, rfl, .inl ⟨rfl, rfl, rfl⟩, (Mix.Ex.refl _).drewN _⟩
  case round =>
    obtain ⟨jj, hj, rfl, hcase, hxr⟩ := hrel
    by_cases hlt : jj < n
    case neg =>
      have hjn : jj = n := by omega
      subst hjn
      rcases hcase with ⟨h0, -⟩ | ⟨jm, hjm, rfl, rfl, HMN⟩
      · omega
      have hxw := HXA.out.trans hxr
      have hNr := HNN.out.ex hxw
      have hLr : ListAt wr q (elT false) (fE (mp An.v X)) := (Chg.ex (S := fun _ => False) hxw).list HLL.out (fun h => h)
      have hwj := fun i hi => Wf_succ.1 (HW.out.2 (mp An.t X i) (mem_lst.2 ⟨i, hi, rfl⟩))
      have hcl : wr.cell? ⟨q, jm, none⟩ = some ((X jm).2.v) := hLr.cell (i := jm) (by omega)
      have hLf := leaf_c wr p _ hNr
      have hCh := children_c wr p _ hNr rfl
      dsimp only at hLf hCh
      have hI := IH _ _ _ (HE.out (X jm) (mem_lst.2 ⟨jm, hjm, rfl⟩)) (hwj jm hjm).1 (hwj jm hjm).2.2 wr (hx.trans hxw)
      have HEX : Hid (∀ x, ExL (itsN h (X jm).2.t) x → ExL (itsN (h + 1) ⟨jj, mp An.t X⟩) x) := Lib.hid fun x hx =>
        pickL (j := jm) (fun i hi => (HW.out.2 (mp An.t X i) (mem_lst.2 ⟨i, hi, rfl⟩)).bd) hjm (fun i hi => HMN.out i hi) hx
      have HN5 := Lib.hid (hxr.obj N5.out)
      have HN6 := Lib.hid (hxr.obj N6.out)
      have HXW := Lib.hid hxw
      have hbb : B5 ≠ B6 := by omega
      clear hNr hLr hwj hxw hxr
      generalize (X jm).2.v = y at hcl hI
      go_wp2_with fail
      refine hLf.mono ?_
      rintro e w2 ⟨rfl, hw⟩
      have hw := hw.symm
      subst hw
      go_wp2_with fail
      refine hCh.mono ?_
      rintro e w2 ⟨rfl, hw⟩
      have hw := hw.symm
      subst hw
      clear hLf hCh
      have hjm64 : (jm : Int) < 64 := by omega
      go_wp2_with fail
      refine hI.mono ?_
      rintro e wA ⟨x, hxm, rfl, hxA⟩
      have m5 := hxA.obj HN5.out
      have m6 := hxA.obj HN6.out
      have hXA := HXW.out.trans hxA
      have s0 := cellOf m5 0
      have s1 := cellOf m5 1
      have s2 := cellOf m6 0
      have s3 := cellOf m6 1
      simp only [List.getElem?_toArray, List.getElem?_cons_zero, List.getElem?_cons_succ] at s0 s1 s2 s3
      have f0 := frzOf m5 0
      have f1 := frzOf m5 1
      have f2 := frzOf m6 0
      have f3 := frzOf m6 1
      have z5 := setCell_obj (setCell_obj m5 0 (.int .i64 x.1.x0)) 1 (.int .i64 x.1.y0)
      have z6 : ((wA.setCell ⟨B5, 0, none⟩ (.int .i64 x.1.x0)).setCell ⟨B5, 1, none⟩ (.int .i64 x.1.y0)).heap[B6]? = _ := ((setCell_ne 1 (Ne.symm hbb) _ none).trans (setCell_ne 0 (Ne.symm hbb) _ none)).trans m6
      have y6 := setCell_obj (setCell_obj z6 0 (.int .i64 x.1.x1)) 1 (.int .i64 x.1.y1)
      have y5 : ((((wA.setCell ⟨B5, 0, none⟩ (.int .i64 x.1.x0)).setCell ⟨B5, 1, none⟩ (.int .i64 x.1.y0)).setCell ⟨B6, 0, none⟩ (.int .i64 x.1.x1)).setCell ⟨B6, 1, none⟩ (.int .i64 x.1.y1)).heap[B5]? = _ := ((setCell_ne 1 hbb _ none).trans (setCell_ne 0 hbb _ none)).trans z5
      simp only [List.setIfInBounds_toArray, List.set_cons_zero, List.set_cons_succ] at y6 y5
      have hX3 := (((hXA.setCell (p := ⟨B5, 0, none⟩) (by dsimp only; omega) (.int .i64 x.1.x0)).setCell (p := ⟨B5, 1, none⟩) (by dsimp only; omega) (.int .i64 x.1.y0)).setCell (p := ⟨B6, 0, none⟩) (by dsimp only; omega) (.int .i64 x.1.x1)).setCell (p := ⟨B6, 1, none⟩) (by dsimp only; omega) (.int .i64 x.1.y1)
      have Y5 := Lib.hid y5
      have Y6 := Lib.hid y6
      have HX3 := Lib.hid hX3
      clear z5 z6 y5 y6 hX3 m5 m6 hxA hXA
      go_wp2_with fail
      have a0 := cellOf Y5.out 0
      have a1 := cellOf Y5.out 1
      have a2 := cellOf Y6.out 0
      have a3 := cellOf Y6.out 1
      simp only [List.getElem?_toArray, List.getElem?_cons_zero, List.getElem?_cons_succ] at a0 a1 a2 a3
      refine bodyPost_ret (v := .tuple #[.agg #[.int .i64 x.1.x0, .int .i64 x.1.y0], .agg #[.int .i64 x.1.x1, .int .i64 x.1.y1], .int .i64 x.2]) (by simp [results, Try.results68, go_sem, a0, a1, a2, a3]) rfl (by first | exact ⟨x, HEX.out x hxm, rfl, HX3.out⟩ | exact ⟨x.1, x.2, HEX.out x hxm, rfl, HX3.out⟩)
    have hNr := HNN.out.ex (HXA.out.trans hxr)
    have r0 : wr.cell? ⟨p, 3 + jj * 4, none⟩ = some (.int .i64 (X jj).1.x0) := cell_rcell hNr (i := jj) (j := 0) (by omega) (by omega)
    have r1 : wr.cell? ⟨p, 3 + jj * 4 + 1, none⟩ = some (.int .i64 (X jj).1.y0) := cell_rcell hNr (i := jj) (j := 1) (by omega) (by omega)
    have r2 : wr.cell? ⟨p, 3 + jj * 4 + 2, none⟩ = some (.int .i64 (X jj).1.x1) := cell_rcell hNr (i := jj) (j := 2) (by omega) (by omega)
    have r3 : wr.cell? ⟨p, 3 + jj * 4 + 3, none⟩ = some (.int .i64 (X jj).1.y1) := cell_rcell hNr (i := jj) (j := 3) (by omega) (by omega)
    have hxb := hxr.alloc (.cells (boxV (X jj).1).toArray 91)
    have nb := heap_alloc_new wr (.cells (boxV (X jj).1).toArray 91)
    clear hNr hxr
    go_upto_region 6 with (fail)
    change Code.wp _ _ _ _ (wr.alloc (.cells (boxV (X jj).1).toArray 91))
    generalize hBb : wr.heap.size = Bb at nb ⊢
    generalize (wr.alloc (.cells (boxV (X jj).1).toArray 91)) = w3 at hxb nb ⊢
    have q0 := cellOf nb 0
    have q1 := cellOf nb 1
    have q2 := cellOf nb 2
    have q3 := cellOf nb 3
    simp only [boxV, List.getElem?_toArray, List.getElem?_cons_zero, List.getElem?_cons_succ] at q0 q1 q2 q3
    have hbl := (Array.getElem?_eq_some_iff.1 nb).1
    have HXB := Lib.hid hxb
    clear r0 r1 r2 r3 hxb nb
    rcases hcase with ⟨h0, rfl, rfl⟩ | ⟨jm, hjm, rfl, rfl, HMN⟩
    · have hmn : Hid (∀ i, i < jj + 1 → (X jj).1.x0 ≤ (X i).1.x0) := Lib.hid fun i hi => by
        have : i = jj := by omega
        subst this; exact Int.le_refl _
      have e0 : ((jj : Int) == 0) = true := by simp [h0]
      have H0 := Lib.hid h0
      clear h0
      go_upto_region 7 with (fail)
      (refine Mix.wp_region_dr (by kernel_rfl) (by kernel_rfl) ?_; (repeat (go_big_quiet_step (fail))); refine wpQuiet_nil ?_; intro nq)
      clear q0 q1 q2 q3
      go_wp2_with fail
      go_roundw
      case measure => simp [intOf]; omega
      case rel => exact ⟨jj + 1, by omega, by go_num, .inr ⟨jj, by omega, rfl, rfl, hmn⟩, HXB.out.drewN _⟩
    · have e0 : ((jj : Int) == 0) = false := by simp; omega
      by_cases hc : (X jj).1.x0 < (X jm).1.x0
      · have hd : decide ((X jj).1.x0 < (X jm).1.x0) = true := decide_eq_true hc
        have hmn : Hid (∀ i, i < jj + 1 → (X jj).1.x0 ≤ (X i).1.x0) := Lib.hid fun i hi => by
          by_cases hij : i = jj
          · subst hij; exact Int.le_refl _
          · have := HMN.out i (by omega); omega
        have H0 := Lib.hid hc
        clear hc
        go_upto_region 7 with (fail)
        (refine Mix.wp_region_dr (by kernel_rfl) (by kernel_rfl) ?_; (repeat (go_big_quiet_step (fail))); refine wpQuiet_nil ?_; intro nq)
        clear q0 q1 q2 q3
        go_wp2_with fail
        go_roundw
        case measure => simp [intOf]; omega
        case rel => exact ⟨jj + 1, by omega, by go_num, .inr ⟨jj, by omega, rfl, rfl, hmn⟩, HXB.out.drewN _⟩
      · have hd : decide ((X jj).1.x0 < (X jm).1.x0) = false := decide_eq_false hc
        have hmn : Hid (∀ i, i < jj + 1 → (X jm).1.x0 ≤ (X i).1.x0) := Lib.hid fun i hi => by
          by_cases hij : i = jj
          · subst hij; omega
          · exact HMN.out i (by omega)
        have H0 := Lib.hid hc
        clear hc
        go_wp2_with fail
        go_roundw
        case measure => simp [intOf]; omega
        case rel => exact ⟨jj + 1, by omega, by go_num, .inr ⟨jm, by omega, rfl, rfl, hmn⟩, HXB.out⟩
theorem endAllL (c : Int) (Z : Nat → Prop) (w0 : World) : ∀ h, EndCL c Z w0 h
  | 0 => endLeafL c Z w0
  | h + 1 => endBraL c Z w0 h (endAllL c Z w0 h)
/-- What minist does at a node of height h. -/
def EndCB (c : Int) (Z : Nat → Prop) (w0 : World) (h : Nat) : Prop :=
  ∀ (v : Value) (t : Nde (El h)) (s : Nat → Prop), ElAt c Z w0 (h + 1) v t s → 1 ≤ t.n → WfN h t → ∀ w, Mix.Ex w0 w →
    Calls Try.prog 68 #[v, .int .i64 1] w fun e w' => ∃ x, ExB (itsN h t) x ∧ e = .returned (.tuple #[.agg #[.int .i64 x.1.x0, .int .i64 x.1.y0], .agg #[.int .i64 x.1.x1, .int .i64 x.1.y1], .int .i64 x.2]) ∧ Mix.Ex w w'
set_option maxRecDepth 100000 in
set_option maxHeartbeats 1600000 in
theorem endLeafB (c : Int) (Z : Nat → Prop) (w0 : World) : EndCB c Z w0 0 := by
  rintro v ⟨n, E⟩ s ⟨p, q, ic, X, rfl, ⟨hN, hL, -, hpq, hn⟩, hE, he, -⟩ hn1 hW w hx
  dsimp only at hN hL hE he hn hn1
  subst hE
  dsimp only [leafB] at hN hL
  have HW := Lib.hid hW
  have HE := Lib.hid he
  have HNN := Lib.hid (hN.ex hx)
  have HLL := Lib.hid ((Chg.ex (S := fun _ => False) hx).list hL (fun h => h))
  clear he hW hN hL
  have n0 : (0 : Int) ≤ (n : Int) := by omega
  have n1 : (n : Int) ≤ 64 := by omega
  go_enter Try.func68, Try.ntmps68
  go_upto_region 3 with (fail)
  have hxa := ((Mix.Ex.refl w).alloc (.cells #[.int .i64 0, .int .i64 0] 28)).alloc (.cells #[.int .i64 0, .int .i64 0] 28)
  have n5 := ((Mix.Ex.refl (w.alloc (.cells #[.int .i64 0, .int .i64 0] 28))).alloc (.cells #[.int .i64 0, .int .i64 0] 28)).obj (heap_alloc_new w (.cells #[.int .i64 0, .int .i64 0] 28))
  have n6 := heap_alloc_new (w.alloc (.cells #[.int .i64 0, .int .i64 0] 28)) (.cells #[.int .i64 0, .int .i64 0] 28)
  rw [World.size_alloc] at n6
  change Code.wp _ _ _ _ ((w.alloc (.cells #[.int .i64 0, .int .i64 0] 28)).alloc (.cells #[.int .i64 0, .int .i64 0] 28))
  generalize ((w.alloc (.cells #[.int .i64 0, .int .i64 0] 28)).alloc (.cells #[.int .i64 0, .int .i64 0] 28)) = w1 at hxa n5 n6 ⊢
  obtain ⟨B5, hB5⟩ : ∃ B5, w.heap.size = B5 := ⟨_, rfl⟩
  obtain ⟨B6, hB6⟩ : ∃ B6, w.heap.size + 1 = B6 := ⟨_, rfl⟩
  rw [hB6] at n6 ⊢
  rw [hB5] at n5 ⊢
  have c2 : w1.cell? ⟨p, 2, none⟩ = some (.int .i16 n) := (HNN.out.ex hxa).cell2
  have HXA := Lib.hid hxa
  have N5 := Lib.hid n5
  have N6 := Lib.hid n6
  clear hxa n5 n6
  (refine Mix.wp_region_dr (by kernel_rfl) (by kernel_rfl) ?_; (repeat (go_big_quiet_step (fail))); refine wpQuiet_nil ?_; intro nq)
  clear c2
  go_wp2_with fail
  go_loopw [7, 8, 20] (fun a b i wr => ∃ jj : Nat, jj ≤ n ∧ i = .int .i64 jj ∧ ((jj = 0 ∧ a = .int .i64 0 ∧ b = .int .i64 0) ∨ ∃ jm : Nat, jm < jj ∧ a = .int .i64 jm ∧ b = .int .i64 (X jm).1.y0 ∧ Hid (∀ i, i < jj → (X jm).1.y0 ≤ (X i).1.y0)) ∧ Mix.Ex w1 wr) (fun _ _ i _ => n - (intOf i).toNat)
  case atStart => exact ⟨0, by omega, rfl, .inl ⟨rfl, rfl, rfl⟩, (Mix.Ex.refl _).drewN _⟩
  case round =>
    obtain ⟨jj, hj, rfl, hcase, hxr⟩ := hrel
    by_cases hlt : jj < n
    case neg =>
      have hjn : jj = n := by omega
      subst hjn
      rcases hcase with ⟨h0, -⟩ | ⟨jm, hjm, rfl, rfl, HMN⟩
      · omega
      have hxw := HXA.out.trans hxr
      have hNr := HNN.out.ex hxw
      have hLr : ListAt wr q (elT true) (fE (mp An.v X)) := (Chg.ex (S := fun _ => False) hxw).list HLL.out (fun h => h)
      have hex : ExB (itsN 0 ⟨jj, mp An.t X⟩) ((X jm).1, ((X jm).2.t : Int)) := by
        refine pickB (j := jm) (fun i hi => ?_) hjm (fun i hi => HMN.out i hi) ⟨by simp [its, mp], fun y hy => ?_⟩
        · exact (HW.out.2 (mp An.t X i) (mem_lst.2 ⟨i, hi, rfl⟩)).bd
        · have : y = ((X jm).1, ((X jm).2.t : Int)) := by simpa [its, mp] using hy
          subst this
          exact Int.le_refl _
      have hvx : (X jm).2.v = .int .i64 ((X jm).2.t : Int) := (HE.out (X jm) (mem_lst.2 ⟨jm, hjm, rfl⟩)).1
      have hcl : wr.cell? ⟨q, jm, none⟩ = some (.int .i64 ((X jm).2.t : Int)) := by rw [hLr.cell (i := jm) (by omega)]; show some ((X jm).2.v) = _; rw [hvx]
      have r0 : wr.cell? ⟨p, 3 + jm * 4, none⟩ = some (.int .i64 (X jm).1.x0) := cell_rcell hNr (i := jm) (j := 0) (by omega) (by omega)
      have r1 : wr.cell? ⟨p, 3 + jm * 4 + 1, none⟩ = some (.int .i64 (X jm).1.y0) := cell_rcell hNr (i := jm) (j := 1) (by omega) (by omega)
      have r2 : wr.cell? ⟨p, 3 + jm * 4 + 2, none⟩ = some (.int .i64 (X jm).1.x1) := cell_rcell hNr (i := jm) (j := 2) (by omega) (by omega)
      have r3 : wr.cell? ⟨p, 3 + jm * 4 + 3, none⟩ = some (.int .i64 (X jm).1.y1) := cell_rcell hNr (i := jm) (j := 3) (by omega) (by omega)
      have hLf := leaf_c wr p _ hNr
      have hIt := items_c (wr.drewN 1) p _ (hNr.drewN 1) rfl
      dsimp only at hLf hIt
      have n5 := hxr.obj N5.out
      have n6 := hxr.obj N6.out
      have hpl := hNr.lt
      have hpB5 : p ≠ B5 := by have := HNN.out.lt; omega
      have hpB6 : p ≠ B6 := by have := HNN.out.lt; omega
      have hqB5 : q ≠ B5 := by have := (Array.getElem?_eq_some_iff.1 HLL.out).1; omega
      have hqB6 : q ≠ B6 := by have := (Array.getElem?_eq_some_iff.1 HLL.out).1; omega
      have HEX := Lib.hid hex
      have hbb : B5 ≠ B6 := by omega
      generalize ((X jm).2.t : Int) = y at hcl HEX
      generalize (X jm).1 = r at r0 r1 r2 r3 HEX
      go_wp2_with fail
      refine hLf.mono ?_
      rintro e w2 ⟨rfl, hw⟩
      have hw := hw.symm
      subst hw
      go_upto_region 10 with (fail)
      have HC := And.intro (show (wr.drewN 1).cell? _ = _ from r0) (And.intro (show (wr.drewN 1).cell? _ = _ from r1) (And.intro (show (wr.drewN 1).cell? _ = _ from r2) (And.intro (show (wr.drewN 1).cell? _ = _ from r3) (show (wr.drewN 1).cell? _ = _ from hcl))))
      refine wp_region_K (fun W => W.cell? ⟨p, 3 + jm * 4, none⟩ = some (.int .i64 r.x0) ∧ W.cell? ⟨p, 3 + jm * 4 + 1, none⟩ = some (.int .i64 r.y0) ∧ W.cell? ⟨p, 3 + jm * 4 + 2, none⟩ = some (.int .i64 r.x1) ∧ W.cell? ⟨p, 3 + jm * 4 + 3, none⟩ = some (.int .i64 r.y1) ∧ W.cell? ⟨q, jm, none⟩ = some (.int .i64 y)) 21 (by kernel_rfl) ?_
      change wpAnyK _ _ _ _ _ 22 (Array.replicate 22 false) _ _
      have hjm64 : (jm : Int) < 64 := by omega
      (refine wpAnyK_take (i := 0) (oi := ?_) (v := ?_) ?_ ?_ ?_ ?_ ?_ ?_ ?_ ?_ ?_; rotate_left 2; (focus (simp only [List.getElem?_toArray, List.getElem?_cons_zero, List.getElem?_cons_succ]; rfl)); (focus kernel_rfl); (focus kernel_rfl); (focus kernel_rfl); (focus kernel_rfl); (focus exact fun _ _ _ h => h); (focus (refine Or.inl ⟨by rfl, ?_⟩; intro W hW; (try dsimp only at hW); go_simp; try with_reducible rfl)); (focus exact HC); (try simp only [Act.put, List.setIfInBounds_toArray, List.set_cons_zero, List.set_cons_succ]))
      (refine wpAnyK_take (i := 1) (oi := ?_) (v := ?_) ?_ ?_ ?_ ?_ ?_ ?_ ?_ ?_ ?_; rotate_left 2; (focus (simp only [List.getElem?_toArray, List.getElem?_cons_zero, List.getElem?_cons_succ]; rfl)); (focus kernel_rfl); (focus kernel_rfl); (focus kernel_rfl); (focus kernel_rfl); (focus exact fun _ _ _ h => h); (focus (refine Or.inl ⟨by rfl, ?_⟩; intro W hW; (try dsimp only at hW); go_simp; try with_reducible rfl)); (focus exact HC); (try simp only [Act.put, List.setIfInBounds_toArray, List.set_cons_zero, List.set_cons_succ]))
      (refine wpAnyK_take (i := 2) (oi := ?_) (v := ?_) ?_ ?_ ?_ ?_ ?_ ?_ ?_ ?_ ?_; rotate_left 2; (focus (simp only [List.getElem?_toArray, List.getElem?_cons_zero, List.getElem?_cons_succ]; rfl)); (focus kernel_rfl); (focus kernel_rfl); (focus kernel_rfl); (focus kernel_rfl); (focus exact fun _ _ _ h => h); (focus (refine Or.inl ⟨by rfl, ?_⟩; intro W hW; (try dsimp only at hW); go_simp; try with_reducible rfl)); (focus exact HC); (try simp only [Act.put, List.setIfInBounds_toArray, List.set_cons_zero, List.set_cons_succ]))
      (refine wpAnyK_take (i := 3) (oi := ?_) (v := ?_) ?_ ?_ ?_ ?_ ?_ ?_ ?_ ?_ ?_; rotate_left 2; (focus (simp only [List.getElem?_toArray, List.getElem?_cons_zero, List.getElem?_cons_succ]; rfl)); (focus kernel_rfl); (focus kernel_rfl); (focus kernel_rfl); (focus kernel_rfl); (focus exact fun _ _ _ h => h); (focus (refine Or.inl ⟨by rfl, ?_⟩; intro W hW; (try dsimp only at hW); go_simp; try with_reducible rfl)); (focus exact HC); (try simp only [Act.put, List.setIfInBounds_toArray, List.set_cons_zero, List.set_cons_succ]))
      (refine wpAnyK_take (i := 4) (oi := ?_) (v := ?_) ?_ ?_ ?_ ?_ ?_ ?_ ?_ ?_ ?_; rotate_left 2; (focus (simp only [List.getElem?_toArray, List.getElem?_cons_zero, List.getElem?_cons_succ]; rfl)); (focus kernel_rfl); (focus kernel_rfl); (focus kernel_rfl); (focus kernel_rfl); (focus exact fun _ _ _ h => h); (focus (refine Or.inl ⟨by rfl, ?_⟩; intro W hW; (try dsimp only at hW); go_simp; try with_reducible rfl)); (focus exact HC); (try simp only [Act.put, List.setIfInBounds_toArray, List.set_cons_zero, List.set_cons_succ]))
      (refine wpAnyK_take (i := 5) (oi := ?_) (v := ?_) ?_ ?_ ?_ ?_ ?_ ?_ ?_ ?_ ?_; rotate_left 2; (focus (simp only [List.getElem?_toArray, List.getElem?_cons_zero, List.getElem?_cons_succ]; rfl)); (focus kernel_rfl); (focus kernel_rfl); (focus kernel_rfl); (focus kernel_rfl); (focus exact fun _ _ _ h => h); (focus (refine Or.inl ⟨by rfl, ?_⟩; intro W hW; (try dsimp only at hW); go_simp; try with_reducible rfl)); (focus exact HC); (try simp only [Act.put, List.setIfInBounds_toArray, List.set_cons_zero, List.set_cons_succ]))
      (refine wpAnyK_take (i := 6) (oi := ?_) (v := ?_) ?_ ?_ ?_ ?_ ?_ ?_ ?_ ?_ ?_; rotate_left 2; (focus (simp only [List.getElem?_toArray, List.getElem?_cons_zero, List.getElem?_cons_succ]; rfl)); (focus kernel_rfl); (focus kernel_rfl); (focus kernel_rfl); (focus kernel_rfl); (focus exact fun _ _ _ h => h); (focus (refine Or.inl ⟨by rfl, ?_⟩; intro W hW; (try dsimp only at hW); go_simp; try with_reducible rfl)); (focus exact HC); (try simp only [Act.put, List.setIfInBounds_toArray, List.set_cons_zero, List.set_cons_succ]))
      (refine wpAnyK_take (i := 7) (oi := ?_) (v := ?_) ?_ ?_ ?_ ?_ ?_ ?_ ?_ ?_ ?_; rotate_left 2; (focus (simp only [List.getElem?_toArray, List.getElem?_cons_zero, List.getElem?_cons_succ]; rfl)); (focus kernel_rfl); (focus kernel_rfl); (focus kernel_rfl); (focus kernel_rfl); (focus exact fun _ _ _ h => h); (focus (refine Or.inl ⟨by rfl, ?_⟩; intro W hW; (try dsimp only at hW); go_simp; try with_reducible rfl)); (focus exact HC); (try simp only [Act.put, List.setIfInBounds_toArray, List.set_cons_zero, List.set_cons_succ]))
      (refine wpAnyK_take (i := 8) (oi := ?_) (v := ?_) ?_ ?_ ?_ ?_ ?_ ?_ ?_ ?_ ?_; rotate_left 2; (focus (simp only [List.getElem?_toArray, List.getElem?_cons_zero, List.getElem?_cons_succ]; rfl)); (focus kernel_rfl); (focus kernel_rfl); (focus kernel_rfl); (focus kernel_rfl); (focus exact fun _ _ _ h => h); (focus (refine Or.inl ⟨by rfl, ?_⟩; intro W hW; (try dsimp only at hW); go_simp; try with_reducible rfl)); (focus exact HC); (try simp only [Act.put, List.setIfInBounds_toArray, List.set_cons_zero, List.set_cons_succ]))
      (refine wpAnyK_take (i := 9) (oi := ?_) (v := ?_) ?_ ?_ ?_ ?_ ?_ ?_ ?_ ?_ ?_; rotate_left 2; (focus (simp only [List.getElem?_toArray, List.getElem?_cons_zero, List.getElem?_cons_succ]; rfl)); (focus kernel_rfl); (focus kernel_rfl); (focus kernel_rfl); (focus kernel_rfl); (focus exact fun _ _ _ h => h); (focus (refine Or.inl ⟨by rfl, ?_⟩; intro W hW; (try dsimp only at hW); go_simp; try with_reducible rfl)); (focus exact HC); (try simp only [Act.put, List.setIfInBounds_toArray, List.set_cons_zero, List.set_cons_succ]))
      (refine wpAnyK_take (i := 10) (oi := ?_) (v := ?_) ?_ ?_ ?_ ?_ ?_ ?_ ?_ ?_ ?_; rotate_left 2; (focus (simp only [List.getElem?_toArray, List.getElem?_cons_zero, List.getElem?_cons_succ]; rfl)); (focus kernel_rfl); (focus kernel_rfl); (focus kernel_rfl); (focus kernel_rfl); (focus exact fun _ _ _ h => h); (focus (refine Or.inl ⟨by rfl, ?_⟩; intro W hW; (try dsimp only at hW); go_simp; try with_reducible rfl)); (focus exact HC); (try simp only [Act.put, List.setIfInBounds_toArray, List.set_cons_zero, List.set_cons_succ]))
      (refine wpAnyK_take (i := 11) (oi := ?_) (v := ?_) ?_ ?_ ?_ ?_ ?_ ?_ ?_ ?_ ?_; rotate_left 2; (focus (simp only [List.getElem?_toArray, List.getElem?_cons_zero, List.getElem?_cons_succ]; rfl)); (focus kernel_rfl); (focus kernel_rfl); (focus kernel_rfl); (focus kernel_rfl); (focus exact fun _ _ _ h => h); (focus (refine Or.inl ⟨by rfl, ?_⟩; intro W hW; (try dsimp only at hW); go_simp; try with_reducible rfl)); (focus exact HC); (try simp only [Act.put, List.setIfInBounds_toArray, List.set_cons_zero, List.set_cons_succ]))
      (refine wpAnyK_take (i := 12) (oi := ?_) (v := ?_) ?_ ?_ ?_ ?_ ?_ ?_ ?_ ?_ ?_; rotate_left 2; (focus (simp only [List.getElem?_toArray, List.getElem?_cons_zero, List.getElem?_cons_succ]; rfl)); (focus kernel_rfl); (focus kernel_rfl); (focus kernel_rfl); (focus kernel_rfl); (focus exact fun _ _ _ h => h); (focus (refine Or.inl ⟨by rfl, ?_⟩; intro W hW; (try dsimp only at hW); go_simp; try with_reducible rfl)); (focus exact HC); (try simp only [Act.put, List.setIfInBounds_toArray, List.set_cons_zero, List.set_cons_succ]))
      (refine wpAnyK_take (i := 13) (oi := ?_) (v := ?_) ?_ ?_ ?_ ?_ ?_ ?_ ?_ ?_ ?_; rotate_left 2; (focus (simp only [List.getElem?_toArray, List.getElem?_cons_zero, List.getElem?_cons_succ]; rfl)); (focus kernel_rfl); (focus kernel_rfl); (focus kernel_rfl); (focus kernel_rfl); (focus exact fun _ _ _ h => h); (focus (refine Or.inl ⟨by rfl, ?_⟩; intro W hW; (try dsimp only at hW); go_simp; try with_reducible rfl)); (focus exact HC); (try simp only [Act.put, List.setIfInBounds_toArray, List.set_cons_zero, List.set_cons_succ]))
      (refine wpAnyK_take (i := 14) (oi := ?_) (v := ?_) ?_ ?_ ?_ ?_ ?_ ?_ ?_ ?_ ?_; rotate_left 2; (focus (simp only [List.getElem?_toArray, List.getElem?_cons_zero, List.getElem?_cons_succ]; rfl)); (focus kernel_rfl); (focus kernel_rfl); (focus kernel_rfl); (focus kernel_rfl); (focus exact fun _ _ _ h => h); (focus (refine Or.inl ⟨by rfl, ?_⟩; intro W hW; (try dsimp only at hW); go_simp; try with_reducible rfl)); (focus exact HC); (try simp only [Act.put, List.setIfInBounds_toArray, List.set_cons_zero, List.set_cons_succ]))
      (refine wpAnyK_take (i := 16) (oi := ?_) (v := ?_) ?_ ?_ ?_ ?_ ?_ ?_ ?_ ?_ ?_; rotate_left 2; (focus (simp only [List.getElem?_toArray, List.getElem?_cons_zero, List.getElem?_cons_succ]; rfl)); (focus kernel_rfl); (focus kernel_rfl); (focus kernel_rfl); (focus kernel_rfl); (focus exact fun _ _ _ h => h); (focus (refine Or.inl ⟨by rfl, ?_⟩; intro W hW; (try dsimp only at hW); go_simp; try with_reducible rfl)); (focus exact HC); (try simp only [Act.put, List.setIfInBounds_toArray, List.set_cons_zero, List.set_cons_succ]))
      have m5 : (wr.drewN 1).heap[B5]? = _ := n5
      have m6 : (wr.drewN 1).heap[B6]? = _ := n6
      have HXW := Lib.hid (hxw.drewN 1)
      clear r0 r1 r2 r3 hcl hLf n5 n6 hxw hxr hNr hLr
      generalize wr.drewN 1 = wA at HC m5 m6 HXW hIt ⊢
      (refine wpAnyK_one (i := 15) (o := ?_) ?_ ?_ ?_ (fun K hK => ?_); rotate_left 1; (focus kernel_rfl); (focus (simp only [List.getElem?_toArray, List.getElem?_cons_zero, List.getElem?_cons_succ]; rfl)); (focus rfl))
      go_simp
      refine hIt.mono ?_
      rintro e w3 ⟨rfl, hw⟩
      have hw := hw.symm
      subst hw
      refine hK _ _ (fun _ => HC) ?_
      clear hK K hIt
      (try simp only [Act.put, List.setIfInBounds_toArray, List.set_cons_zero, List.set_cons_succ])
      (refine wpAnyK_take (i := 17) (oi := ?_) (v := ?_) ?_ ?_ ?_ ?_ ?_ ?_ ?_ ?_ ?_; rotate_left 2; (focus (simp only [List.getElem?_toArray, List.getElem?_cons_zero, List.getElem?_cons_succ]; rfl)); (focus kernel_rfl); (focus kernel_rfl); (focus kernel_rfl); (focus kernel_rfl); (focus exact fun _ _ _ h => h); (focus (refine Or.inl ⟨by rfl, ?_⟩; intro W hW; (try dsimp only at hW); go_simp; try with_reducible rfl)); (focus exact HC); (try simp only [Act.put, List.setIfInBounds_toArray, List.set_cons_zero, List.set_cons_succ]))
      (refine wpAnyK_take (i := 18) (oi := ?_) (v := ?_) ?_ ?_ ?_ ?_ ?_ ?_ ?_ ?_ ?_; rotate_left 2; (focus (simp only [List.getElem?_toArray, List.getElem?_cons_zero, List.getElem?_cons_succ]; rfl)); (focus kernel_rfl); (focus kernel_rfl); (focus kernel_rfl); (focus kernel_rfl); (focus exact fun _ _ _ h => h); (focus (refine Or.inl ⟨by rfl, ?_⟩; intro W hW; (try dsimp only at hW); go_simp; try with_reducible rfl)); (focus exact HC); (try simp only [Act.put, List.setIfInBounds_toArray, List.set_cons_zero, List.set_cons_succ]))
      have s0 := cellOf m5 0
      have s1 := cellOf m5 1
      simp only [List.getElem?_toArray, List.getElem?_cons_zero, List.getElem?_cons_succ] at s0 s1
      have f0 := frzOf m5 0
      have f1 := frzOf m5 1
      obtain ⟨k0, k1, k2, k3, k4⟩ := HC
      have cc : ∀ {b o : Nat} {u : Value}, b ≠ B5 → wA.cell? ⟨b, o, none⟩ = some u → ((wA.setCell ⟨B5, 0, none⟩ (.int .i64 r.x0)).setCell ⟨B5, 1, none⟩ (.int .i64 r.y0)).cell? ⟨b, o, none⟩ = some u := fun {b o u} hb h => by
        unfold World.cell? at h ⊢
        dsimp only at h ⊢
        rw [setCell_ne 1 hb, setCell_ne 0 hb]; exact h
      have HC2 := And.intro (cc hpB5 k0) (And.intro (cc hpB5 k1) (And.intro (cc hpB5 k2) (And.intro (cc hpB5 k3) (cc hqB5 k4))))
      have z5 := setCell_obj (setCell_obj m5 0 (.int .i64 r.x0)) 1 (.int .i64 r.y0)
      have z6 : ((wA.setCell ⟨B5, 0, none⟩ (.int .i64 r.x0)).setCell ⟨B5, 1, none⟩ (.int .i64 r.y0)).heap[B6]? = _ := ((setCell_ne 1 (Ne.symm hbb) _ none).trans (setCell_ne 0 (Ne.symm hbb) _ none)).trans m6
      have HX2 := Lib.hid ((HXW.out.setCell (p := ⟨B5, 0, none⟩) (by dsimp only; omega) (.int .i64 r.x0)).setCell (p := ⟨B5, 1, none⟩) (by dsimp only; omega) (.int .i64 r.y0))
      simp only [List.setIfInBounds_toArray, List.set_cons_zero, List.set_cons_succ] at z5
      clear k0 k1 k2 k3 k4 cc
      (refine wpAnyK_one (i := 19) (o := ?_) ?_ ?_ ?_ (fun K hK => ?_); rotate_left 1; (focus kernel_rfl); (focus (simp only [List.getElem?_toArray, List.getElem?_cons_zero, List.getElem?_cons_succ]; rfl)); (focus rfl))
      go_simp
      generalize ((wA.setCell ⟨B5, 0, none⟩ (.int .i64 r.x0)).setCell ⟨B5, 1, none⟩ (.int .i64 r.y0)) = wB at HC2 z5 z6 HX2 hK ⊢
      refine hK _ _ (fun _ => HC2) ?_
      clear hK K s0 s1 f0 f1 m5 m6
      have s0 := cellOf z6 0
      have s1 := cellOf z6 1
      simp only [List.getElem?_toArray, List.getElem?_cons_zero, List.getElem?_cons_succ] at s0 s1
      have f0 := frzOf z6 0
      have f1 := frzOf z6 1
      obtain ⟨k0, k1, k2, k3, k4⟩ := HC2
      have cc : ∀ {b o : Nat} {u : Value}, b ≠ B6 → wB.cell? ⟨b, o, none⟩ = some u → ((wB.setCell ⟨B6, 0, none⟩ (.int .i64 r.x1)).setCell ⟨B6, 1, none⟩ (.int .i64 r.y1)).cell? ⟨b, o, none⟩ = some u := fun {b o u} hb h => by
        unfold World.cell? at h ⊢
        dsimp only at h ⊢
        rw [setCell_ne 1 hb, setCell_ne 0 hb]; exact h
      have HC3 := And.intro (cc hpB6 k0) (And.intro (cc hpB6 k1) (And.intro (cc hpB6 k2) (And.intro (cc hpB6 k3) (cc hqB6 k4))))
      have y6 := setCell_obj (setCell_obj z6 0 (.int .i64 r.x1)) 1 (.int .i64 r.y1)
      have y5 : ((wB.setCell ⟨B6, 0, none⟩ (.int .i64 r.x1)).setCell ⟨B6, 1, none⟩ (.int .i64 r.y1)).heap[B5]? = _ := ((setCell_ne 1 hbb _ none).trans (setCell_ne 0 hbb _ none)).trans z5
      have HX3 := Lib.hid ((HX2.out.setCell (p := ⟨B6, 0, none⟩) (by dsimp only; omega) (.int .i64 r.x1)).setCell (p := ⟨B6, 1, none⟩) (by dsimp only; omega) (.int .i64 r.y1))
      simp only [List.setIfInBounds_toArray, List.set_cons_zero, List.set_cons_succ] at y6
      clear k0 k1 k2 k3 k4 cc
      (refine wpAnyK_one (i := 20) (o := ?_) ?_ ?_ ?_ (fun K hK => ?_); rotate_left 1; (focus kernel_rfl); (focus (simp only [List.getElem?_toArray, List.getElem?_cons_zero, List.getElem?_cons_succ]; rfl)); (focus rfl))
      go_simp
      generalize ((wB.setCell ⟨B6, 0, none⟩ (.int .i64 r.x1)).setCell ⟨B6, 1, none⟩ (.int .i64 r.y1)) = wC at HC3 y5 y6 HX3 hK ⊢
      refine hK _ _ (fun _ => HC3) ?_
      clear hK K s0 s1 f0 f1 z5 z6
      (refine wpAnyK_one (i := 21) (o := ?_) ?_ ?_ ?_ (fun K hK => ?_); rotate_left 1; (focus kernel_rfl); (focus (simp only [List.getElem?_toArray, List.getElem?_cons_zero, List.getElem?_cons_succ]; rfl)); (focus rfl))
      go_simp
      refine hK _ _ (fun _ => HC3) ?_
      clear hK K HC3
      refine wpAnyK_done (by kernel_rfl) ?_ _
      have a0 := cellOf y5 0
      have a1 := cellOf y5 1
      have a2 := cellOf y6 0
      have a3 := cellOf y6 1
      simp only [List.getElem?_toArray, List.getElem?_cons_zero, List.getElem?_cons_succ] at a0 a1 a2 a3
      clear y5 y6
      go_wp2_with fail
      refine bodyPost_ret (v := .tuple #[.agg #[.int .i64 r.x0, .int .i64 r.y0], .agg #[.int .i64 r.x1, .int .i64 r.y1], .int .i64 y]) (by simp [results, Try.results68, go_sem, a0, a1, a2, a3]) rfl (by first | exact ⟨r, y, HEX.out, rfl, HX3.out⟩ | exact ⟨(r, y), HEX.out, rfl, HX3.out⟩)
    have hNr := HNN.out.ex (HXA.out.trans hxr)
    have r0 : wr.cell? ⟨p, 3 + jj * 4, none⟩ = some (.int .i64 (X jj).1.x0) := cell_rcell hNr (i := jj) (j := 0) (by omega) (by omega)
    have r1 : wr.cell? ⟨p, 3 + jj * 4 + 1, none⟩ = some (.int .i64 (X jj).1.y0) := cell_rcell hNr (i := jj) (j := 1) (by omega) (by omega)
    have r2 : wr.cell? ⟨p, 3 + jj * 4 + 2, none⟩ = some (.int .i64 (X jj).1.x1) := cell_rcell hNr (i := jj) (j := 2) (by omega) (by omega)
    have r3 : wr.cell? ⟨p, 3 + jj * 4 + 3, none⟩ = some (.int .i64 (X jj).1.y1) := cell_rcell hNr (i := jj) (j := 3) (by omega) (by omega)
    have hxb := hxr.alloc (.cells (boxV (X jj).1).toArray 91)
    have nb := heap_alloc_new wr (.cells (boxV (X jj).1).toArray 91)
    clear hNr hxr
    go_upto_region 6 with (fail)
    change Code.wp _ _ _ _ (wr.alloc (.cells (boxV (X jj).1).toArray 91))
    generalize hBb : wr.heap.size = Bb at nb ⊢
    generalize (wr.alloc (.cells (boxV (X jj).1).toArray 91)) = w3 at hxb nb ⊢
    have q0 := cellOf nb 0
    have q1 := cellOf nb 1
    have q2 := cellOf nb 2
    have q3 := cellOf nb 3
    simp only [boxV, List.getElem?_toArray, List.getElem?_cons_zero, List.getElem?_cons_succ] at q0 q1 q2 q3
    have hbl := (Array.getElem?_eq_some_iff.1 nb).1
    have HXB := Lib.hid hxb
    clear r0 r1 r2 r3 hxb nb
    rcases hcase with ⟨h0, rfl, rfl⟩ | ⟨jm, hjm, rfl, rfl, HMN⟩
    · have hmn : Hid (∀ i, i < jj + 1 → (X jj).1.y0 ≤ (X i).1.y0) := Lib.hid fun i hi => by
        have : i = jj := by omega
        subst this; exact Int.le_refl _
      have e0 : ((jj : Int) == 0) = true := by simp [h0]
      have H0 := Lib.hid h0
      clear h0
      go_upto_region 7 with (fail)
      (refine Mix.wp_region_dr (by kernel_rfl) (by kernel_rfl) ?_; (repeat (go_big_quiet_step (fail))); refine wpQuiet_nil ?_; intro nq)
      clear q0 q1 q2 q3
      go_wp2_with fail
      go_roundw
      case measure => simp [intOf]; omega
      case rel => exact ⟨jj + 1, by omega, by go_num, .inr ⟨jj, by omega, rfl, rfl, hmn⟩, HXB.out.drewN _⟩
    · have e0 : ((jj : Int) == 0) = false := by simp; omega
      by_cases hc : (X jj).1.y0 < (X jm).1.y0
      · have hd : decide ((X jj).1.y0 < (X jm).1.y0) = true := decide_eq_true hc
        have hmn : Hid (∀ i, i < jj + 1 → (X jj).1.y0 ≤ (X i).1.y0) := Lib.hid fun i hi => by
          by_cases hij : i = jj
          · subst hij; exact Int.le_refl _
          · have := HMN.out i (by omega); omega
        have H0 := Lib.hid hc
        clear hc
        go_upto_region 7 with (fail)
        (refine Mix.wp_region_dr (by kernel_rfl) (by kernel_rfl) ?_; (repeat (go_big_quiet_step (fail))); refine wpQuiet_nil ?_; intro nq)
        clear q0 q1 q2 q3
        go_wp2_with fail
        go_roundw
        case measure => simp [intOf]; omega
        case rel => exact ⟨jj + 1, by omega, by go_num, .inr ⟨jj, by omega, rfl, rfl, hmn⟩, HXB.out.drewN _⟩
      · have hd : decide ((X jj).1.y0 < (X jm).1.y0) = false := decide_eq_false hc
        have hmn : Hid (∀ i, i < jj + 1 → (X jm).1.y0 ≤ (X i).1.y0) := Lib.hid fun i hi => by
          by_cases hij : i = jj
          · subst hij; omega
          · exact HMN.out i (by omega)
        have H0 := Lib.hid hc
        clear hc
        go_wp2_with fail
        go_roundw
        case measure => simp [intOf]; omega
        case rel => exact ⟨jj + 1, by omega, by go_num, .inr ⟨jm, by omega, rfl, rfl, hmn⟩, HXB.out⟩
set_option maxRecDepth 100000 in
set_option maxHeartbeats 1600000 in
theorem endBraB (c : Int) (Z : Nat → Prop) (w0 : World) (h : Nat) (IH : EndCB c Z w0 h) : EndCB c Z w0 (h + 1) := by
  rintro v ⟨n, E⟩ s ⟨p, q, ic, X, rfl, ⟨hN, hL, -, hpq, hn⟩, hE, he, -⟩ hn1 hW w hx
  dsimp only at hN hL hE he hn hn1
  subst hE
  dsimp only [leafB] at hN hL
  have HW := Lib.hid hW
  have HE := Lib.hid he
  have HNN := Lib.hid (hN.ex hx)
  have HLL := Lib.hid ((Chg.ex (S := fun _ => False) hx).list hL (fun h => h))
  clear he hW hN hL
  have n0 : (0 : Int) ≤ (n : Int) := by omega
  have n1 : (n : Int) ≤ 64 := by omega
  go_enter Try.func68, Try.ntmps68
  go_upto_region 3 with (fail)
  have hxa := ((Mix.Ex.refl w).alloc (.cells #[.int .i64 0, .int .i64 0] 28)).alloc (.cells #[.int .i64 0, .int .i64 0] 28)
  have n5 := ((Mix.Ex.refl (w.alloc (.cells #[.int .i64 0, .int .i64 0] 28))).alloc (.cells #[.int .i64 0, .int .i64 0] 28)).obj (heap_alloc_new w (.cells #[.int .i64 0, .int .i64 0] 28))
  have n6 := heap_alloc_new (w.alloc (.cells #[.int .i64 0, .int .i64 0] 28)) (.cells #[.int .i64 0, .int .i64 0] 28)
  rw [World.size_alloc] at n6
  change Code.wp _ _ _ _ ((w.alloc (.cells #[.int .i64 0, .int .i64 0] 28)).alloc (.cells #[.int .i64 0, .int .i64 0] 28))
  generalize ((w.alloc (.cells #[.int .i64 0, .int .i64 0] 28)).alloc (.cells #[.int .i64 0, .int .i64 0] 28)) = w1 at hxa n5 n6 ⊢
  obtain ⟨B5, hB5⟩ : ∃ B5, w.heap.size = B5 := ⟨_, rfl⟩
  obtain ⟨B6, hB6⟩ : ∃ B6, w.heap.size + 1 = B6 := ⟨_, rfl⟩
  rw [hB6] at n6 ⊢
  rw [hB5] at n5 ⊢
  have c2 : w1.cell? ⟨p, 2, none⟩ = some (.int .i16 n) := (HNN.out.ex hxa).cell2
  have HXA := Lib.hid hxa
  have N5 := Lib.hid n5
  have N6 := Lib.hid n6
  clear hxa n5 n6
  (refine Mix.wp_region_dr (by kernel_rfl) (by kernel_rfl) ?_; (repeat (go_big_quiet_step (fail))); refine wpQuiet_nil ?_; intro nq)
  clear c2
  go_wp2_with fail
  go_loopw [7, 8, 20] (fun a b i wr => ∃ jj : Nat, jj ≤ n ∧ i = .int .i64 jj ∧ ((jj = 0 ∧ a = .int .i64 0 ∧ b = .int .i64 0) ∨ ∃ jm : Nat, jm < jj ∧ a = .int .i64 jm ∧ b = .int .i64 (X jm).1.y0 ∧ Hid (∀ i, i < jj → (X jm).1.y0 ≤ (X i).1.y0)) ∧ Mix.Ex w1 wr) (fun _ _ i _ => n - (intOf i).toNat)
  case atStart => exact ⟨0, by omega, rfl, .inl ⟨rfl, rfl, rfl⟩, (Mix.Ex.refl _).drewN _⟩
  case round =>
    obtain ⟨jj, hj, rfl, hcase, hxr⟩ := hrel
    by_cases hlt : jj < n
    case neg =>
      have hjn : jj = n := by omega
      subst hjn
      rcases hcase with ⟨h0, -⟩ | ⟨jm, hjm, rfl, rfl, HMN⟩
      · omega
      have hxw := HXA.out.trans hxr
      have hNr := HNN.out.ex hxw
      have hLr : ListAt wr q (elT false) (fE (mp An.v X)) := (Chg.ex (S := fun _ => False) hxw).list HLL.out (fun h => h)
      have hwj := fun i hi => Wf_succ.1 (HW.out.2 (mp An.t X i) (mem_lst.2 ⟨i, hi, rfl⟩))
      have hcl : wr.cell? ⟨q, jm, none⟩ = some ((X jm).2.v) := hLr.cell (i := jm) (by omega)
      have hLf := leaf_c wr p _ hNr
      have hCh := children_c wr p _ hNr rfl
      dsimp only at hLf hCh
      have hI := IH _ _ _ (HE.out (X jm) (mem_lst.2 ⟨jm, hjm, rfl⟩)) (hwj jm hjm).1 (hwj jm hjm).2.2 wr (hx.trans hxw)
      have HEX : Hid (∀ x, ExB (itsN h (X jm).2.t) x → ExB (itsN (h + 1) ⟨jj, mp An.t X⟩) x) := Lib.hid fun x hx =>
        pickB (j := jm) (fun i hi => (HW.out.2 (mp An.t X i) (mem_lst.2 ⟨i, hi, rfl⟩)).bd) hjm (fun i hi => HMN.out i hi) hx
      have HN5 := Lib.hid (hxr.obj N5.out)
      have HN6 := Lib.hid (hxr.obj N6.out)
      have HXW := Lib.hid hxw
      have hbb : B5 ≠ B6 := by omega
      clear hNr hLr hwj hxw hxr
      generalize (X jm).2.v = y at hcl hI
      go_wp2_with fail
      refine hLf.mono ?_
      rintro e w2 ⟨rfl, hw⟩
      have hw := hw.symm
      subst hw
      go_wp2_with fail
      refine hCh.mono ?_
      rintro e w2 ⟨rfl, hw⟩
      have hw := hw.symm
      subst hw
      clear hLf hCh
      have hjm64 : (jm : Int) < 64 := by omega
      go_wp2_with fail
      refine hI.mono ?_
      rintro e wA ⟨x, hxm, rfl, hxA⟩
      have m5 := hxA.obj HN5.out
      have m6 := hxA.obj HN6.out
      have hXA := HXW.out.trans hxA
      have s0 := cellOf m5 0
      have s1 := cellOf m5 1
      have s2 := cellOf m6 0
      have s3 := cellOf m6 1
      simp only [List.getElem?_toArray, List.getElem?_cons_zero, List.getElem?_cons_succ] at s0 s1 s2 s3
      have f0 := frzOf m5 0
      have f1 := frzOf m5 1
      have f2 := frzOf m6 0
      have f3 := frzOf m6 1
      have z5 := setCell_obj (setCell_obj m5 0 (.int .i64 x.1.x0)) 1 (.int .i64 x.1.y0)
      have z6 : ((wA.setCell ⟨B5, 0, none⟩ (.int .i64 x.1.x0)).setCell ⟨B5, 1, none⟩ (.int .i64 x.1.y0)).heap[B6]? = _ := ((setCell_ne 1 (Ne.symm hbb) _ none).trans (setCell_ne 0 (Ne.symm hbb) _ none)).trans m6
      have y6 := setCell_obj (setCell_obj z6 0 (.int .i64 x.1.x1)) 1 (.int .i64 x.1.y1)
      have y5 : ((((wA.setCell ⟨B5, 0, none⟩ (.int .i64 x.1.x0)).setCell ⟨B5, 1, none⟩ (.int .i64 x.1.y0)).setCell ⟨B6, 0, none⟩ (.int .i64 x.1.x1)).setCell ⟨B6, 1, none⟩ (.int .i64 x.1.y1)).heap[B5]? = _ := ((setCell_ne 1 hbb _ none).trans (setCell_ne 0 hbb _ none)).trans z5
      simp only [List.setIfInBounds_toArray, List.set_cons_zero, List.set_cons_succ] at y6 y5
      have hX3 := (((hXA.setCell (p := ⟨B5, 0, none⟩) (by dsimp only; omega) (.int .i64 x.1.x0)).setCell (p := ⟨B5, 1, none⟩) (by dsimp only; omega) (.int .i64 x.1.y0)).setCell (p := ⟨B6, 0, none⟩) (by dsimp only; omega) (.int .i64 x.1.x1)).setCell (p := ⟨B6, 1, none⟩) (by dsimp only; omega) (.int .i64 x.1.y1)
      have Y5 := Lib.hid y5
      have Y6 := Lib.hid y6
      have HX3 := Lib.hid hX3
      clear z5 z6 y5 y6 hX3 m5 m6 hxA hXA
      go_wp2_with fail
      have a0 := cellOf Y5.out 0
      have a1 := cellOf Y5.out 1
      have a2 := cellOf Y6.out 0
      have a3 := cellOf Y6.out 1
      simp only [List.getElem?_toArray, List.getElem?_cons_zero, List.getElem?_cons_succ] at a0 a1 a2 a3
      refine bodyPost_ret (v := .tuple #[.agg #[.int .i64 x.1.x0, .int .i64 x.1.y0], .agg #[.int .i64 x.1.x1, .int .i64 x.1.y1], .int .i64 x.2]) (by simp [results, Try.results68, go_sem, a0, a1, a2, a3]) rfl (by first | exact ⟨x, HEX.out x hxm, rfl, HX3.out⟩ | exact ⟨x.1, x.2, HEX.out x hxm, rfl, HX3.out⟩)
    have hNr := HNN.out.ex (HXA.out.trans hxr)
    have r0 : wr.cell? ⟨p, 3 + jj * 4, none⟩ = some (.int .i64 (X jj).1.x0) := cell_rcell hNr (i := jj) (j := 0) (by omega) (by omega)
    have r1 : wr.cell? ⟨p, 3 + jj * 4 + 1, none⟩ = some (.int .i64 (X jj).1.y0) := cell_rcell hNr (i := jj) (j := 1) (by omega) (by omega)
    have r2 : wr.cell? ⟨p, 3 + jj * 4 + 2, none⟩ = some (.int .i64 (X jj).1.x1) := cell_rcell hNr (i := jj) (j := 2) (by omega) (by omega)
    have r3 : wr.cell? ⟨p, 3 + jj * 4 + 3, none⟩ = some (.int .i64 (X jj).1.y1) := cell_rcell hNr (i := jj) (j := 3) (by omega) (by omega)
    have hxb := hxr.alloc (.cells (boxV (X jj).1).toArray 91)
    have nb := heap_alloc_new wr (.cells (boxV (X jj).1).toArray 91)
    clear hNr hxr
    go_upto_region 6 with (fail)
    change Code.wp _ _ _ _ (wr.alloc (.cells (boxV (X jj).1).toArray 91))
    generalize hBb : wr.heap.size = Bb at nb ⊢
    generalize (wr.alloc (.cells (boxV (X jj).1).toArray 91)) = w3 at hxb nb ⊢
    have q0 := cellOf nb 0
    have q1 := cellOf nb 1
    have q2 := cellOf nb 2
    have q3 := cellOf nb 3
    simp only [boxV, List.getElem?_toArray, List.getElem?_cons_zero, List.getElem?_cons_succ] at q0 q1 q2 q3
    have hbl := (Array.getElem?_eq_some_iff.1 nb).1
    have HXB := Lib.hid hxb
    clear r0 r1 r2 r3 hxb nb
    rcases hcase with ⟨h0, rfl, rfl⟩ | ⟨jm, hjm, rfl, rfl, HMN⟩
    · have hmn : Hid (∀ i, i < jj + 1 → (X jj).1.y0 ≤ (X i).1.y0) := Lib.hid fun i hi => by
        have : i = jj := by omega
        subst this; exact Int.le_refl _
      have e0 : ((jj : Int) == 0) = true := by simp [h0]
      have H0 := Lib.hid h0
      clear h0
      go_upto_region 7 with (fail)
      (refine Mix.wp_region_dr (by kernel_rfl) (by kernel_rfl) ?_; (repeat (go_big_quiet_step (fail))); refine wpQuiet_nil ?_; intro nq)
      clear q0 q1 q2 q3
      go_wp2_with fail
      go_roundw
      case measure => simp [intOf]; omega
      case rel => exact ⟨jj + 1, by omega, by go_num, .inr ⟨jj, by omega, rfl, rfl, hmn⟩, HXB.out.drewN _⟩
    · have e0 : ((jj : Int) == 0) = false := by simp; omega
      by_cases hc : (X jj).1.y0 < (X jm).1.y0
      · have hd : decide ((X jj).1.y0 < (X jm).1.y0) = true := decide_eq_true hc
        have hmn : Hid (∀ i, i < jj + 1 → (X jj).1.y0 ≤ (X i).1.y0) := Lib.hid fun i hi => by
          by_cases hij : i = jj
          · subst hij; exact Int.le_refl _
          · have := HMN.out i (by omega); omega
        have H0 := Lib.hid hc
        clear hc
        go_upto_region 7 with (fail)
        (refine Mix.wp_region_dr (by kernel_rfl) (by kernel_rfl) ?_; (repeat (go_big_quiet_step (fail))); refine wpQuiet_nil ?_; intro nq)
        clear q0 q1 q2 q3
        go_wp2_with fail
        go_roundw
        case measure => simp [intOf]; omega
        case rel => exact ⟨jj + 1, by omega, by go_num, .inr ⟨jj, by omega, rfl, rfl, hmn⟩, HXB.out.drewN _⟩
      · have hd : decide ((X jj).1.y0 < (X jm).1.y0) = false := decide_eq_false hc
        have hmn : Hid (∀ i, i < jj + 1 → (X jm).1.y0 ≤ (X i).1.y0) := Lib.hid fun i hi => by
          by_cases hij : i = jj
          · subst hij; omega
          · exact HMN.out i (by omega)
        have H0 := Lib.hid hc
        clear hc
        go_wp2_with fail
        go_roundw
        case measure => simp [intOf]; omega
        case rel => exact ⟨jj + 1, by omega, by go_num, .inr ⟨jm, by omega, rfl, rfl, hmn⟩, HXB.out⟩
theorem endAllB (c : Int) (Z : Nat → Prop) (w0 : World) : ∀ h, EndCB c Z w0 h
  | 0 => endLeafB c Z w0
  | h + 1 => endBraB c Z w0 h (endAllB c Z w0 h)
/-- What maxist does at a node of height h. -/
def EndCR (c : Int) (Z : Nat → Prop) (w0 : World) (h : Nat) : Prop :=
  ∀ (v : Value) (t : Nde (El h)) (s : Nat → Prop), ElAt c Z w0 (h + 1) v t s → 1 ≤ t.n → WfN h t → ∀ w, Mix.Ex w0 w →
    Calls Try.prog 69 #[v, .int .i64 0] w fun e w' => ∃ x, ExR (itsN h t) x ∧ e = .returned (.tuple #[.agg #[.int .i64 x.1.x0, .int .i64 x.1.y0], .agg #[.int .i64 x.1.x1, .int .i64 x.1.y1], .int .i64 x.2]) ∧ Mix.Ex w w'
set_option maxRecDepth 100000 in
set_option maxHeartbeats 1600000 in
theorem endLeafR (c : Int) (Z : Nat → Prop) (w0 : World) : EndCR c Z w0 0 := by
  rintro v ⟨n, E⟩ s ⟨p, q, ic, X, rfl, ⟨hN, hL, -, hpq, hn⟩, hE, he, -⟩ hn1 hW w hx
  dsimp only at hN hL hE he hn hn1
  subst hE
  dsimp only [leafB] at hN hL
  have HW := Lib.hid hW
  have HE := Lib.hid he
  have HNN := Lib.hid (hN.ex hx)
  have HLL := Lib.hid ((Chg.ex (S := fun _ => False) hx).list hL (fun h => h))
  clear he hW hN hL
  have n0 : (0 : Int) ≤ (n : Int) := by omega
  have n1 : (n : Int) ≤ 64 := by omega
  go_enter Try.func69, Try.ntmps69
  go_upto_region 3 with (fail)
  have hxa := ((Mix.Ex.refl w).alloc (.cells #[.int .i64 0, .int .i64 0] 28)).alloc (.cells #[.int .i64 0, .int .i64 0] 28)
  have n5 := ((Mix.Ex.refl (w.alloc (.cells #[.int .i64 0, .int .i64 0] 28))).alloc (.cells #[.int .i64 0, .int .i64 0] 28)).obj (heap_alloc_new w (.cells #[.int .i64 0, .int .i64 0] 28))
  have n6 := heap_alloc_new (w.alloc (.cells #[.int .i64 0, .int .i64 0] 28)) (.cells #[.int .i64 0, .int .i64 0] 28)
  rw [World.size_alloc] at n6
  change Code.wp _ _ _ _ ((w.alloc (.cells #[.int .i64 0, .int .i64 0] 28)).alloc (.cells #[.int .i64 0, .int .i64 0] 28))
  generalize ((w.alloc (.cells #[.int .i64 0, .int .i64 0] 28)).alloc (.cells #[.int .i64 0, .int .i64 0] 28)) = w1 at hxa n5 n6 ⊢
  obtain ⟨B5, hB5⟩ : ∃ B5, w.heap.size = B5 := ⟨_, rfl⟩
  obtain ⟨B6, hB6⟩ : ∃ B6, w.heap.size + 1 = B6 := ⟨_, rfl⟩
  rw [hB6] at n6 ⊢
  rw [hB5] at n5 ⊢
  have c2 : w1.cell? ⟨p, 2, none⟩ = some (.int .i16 n) := (HNN.out.ex hxa).cell2
  have HXA := Lib.hid hxa
  have N5 := Lib.hid n5
  have N6 := Lib.hid n6
  clear hxa n5 n6
  (refine Mix.wp_region_dr (by kernel_rfl) (by kernel_rfl) ?_; (repeat (go_big_quiet_step (fail))); refine wpQuiet_nil ?_; intro nq)
  clear c2
  go_wp2_with fail
  go_loopw [7, 8, 20] (fun a b i wr => ∃ jj : Nat, jj ≤ n ∧ i = .int .i64 jj ∧ ((jj = 0 ∧ a = .int .i64 0 ∧ b = .int .i64 0) ∨ ∃ jm : Nat, jm < jj ∧ a = .int .i64 jm ∧ b = .int .i64 (X jm).1.x1 ∧ Hid (∀ i, i < jj → (X i).1.x1 ≤ (X jm).1.x1)) ∧ Mix.Ex w1 wr) (fun _ _ i _ => n - (intOf i).toNat)
  case atStart => exact ⟨0, by omega, rfl, .inl ⟨rfl, rfl, rfl⟩, (Mix.Ex.refl _).drewN _⟩
  case round =>
    obtain ⟨jj, hj, rfl, hcase, hxr⟩ := hrel
    by_cases hlt : jj < n
    case neg =>
      have hjn : jj = n := by omega
      subst hjn
      rcases hcase with ⟨h0, -⟩ | ⟨jm, hjm, rfl, rfl, HMN⟩
      · omega
      have hxw := HXA.out.trans hxr
      have hNr := HNN.out.ex hxw
      have hLr : ListAt wr q (elT true) (fE (mp An.v X)) := (Chg.ex (S := fun _ => False) hxw).list HLL.out (fun h => h)
      have hex : ExR (itsN 0 ⟨jj, mp An.t X⟩) ((X jm).1, ((X jm).2.t : Int)) := by
        refine pickR (j := jm) (fun i hi => ?_) hjm (fun i hi => HMN.out i hi) ⟨by simp [its, mp], fun y hy => ?_⟩
        · exact (HW.out.2 (mp An.t X i) (mem_lst.2 ⟨i, hi, rfl⟩)).bd
        · have : y = ((X jm).1, ((X jm).2.t : Int)) := by simpa [its, mp] using hy
          subst this
          exact Int.le_refl _
      have hvx : (X jm).2.v = .int .i64 ((X jm).2.t : Int) := (HE.out (X jm) (mem_lst.2 ⟨jm, hjm, rfl⟩)).1
      have hcl : wr.cell? ⟨q, jm, none⟩ = some (.int .i64 ((X jm).2.t : Int)) := by rw [hLr.cell (i := jm) (by omega)]; show some ((X jm).2.v) = _; rw [hvx]
      have r0 : wr.cell? ⟨p, 3 + jm * 4, none⟩ = some (.int .i64 (X jm).1.x0) := cell_rcell hNr (i := jm) (j := 0) (by omega) (by omega)
      have r1 : wr.cell? ⟨p, 3 + jm * 4 + 1, none⟩ = some (.int .i64 (X jm).1.y0) := cell_rcell hNr (i := jm) (j := 1) (by omega) (by omega)
      have r2 : wr.cell? ⟨p, 3 + jm * 4 + 2, none⟩ = some (.int .i64 (X jm).1.x1) := cell_rcell hNr (i := jm) (j := 2) (by omega) (by omega)
      have r3 : wr.cell? ⟨p, 3 + jm * 4 + 3, none⟩ = some (.int .i64 (X jm).1.y1) := cell_rcell hNr (i := jm) (j := 3) (by omega) (by omega)
      have hLf := leaf_c wr p _ hNr
      have hIt := items_c (wr.drewN 1) p _ (hNr.drewN 1) rfl
      dsimp only at hLf hIt
      have n5 := hxr.obj N5.out
      have n6 := hxr.obj N6.out
      have hpl := hNr.lt
      have hpB5 : p ≠ B5 := by have := HNN.out.lt; omega
      have hpB6 : p ≠ B6 := by have := HNN.out.lt; omega
      have hqB5 : q ≠ B5 := by have := (Array.getElem?_eq_some_iff.1 HLL.out).1; omega
      have hqB6 : q ≠ B6 := by have := (Array.getElem?_eq_some_iff.1 HLL.out).1; omega
      have HEX := Lib.hid hex
      have hbb : B5 ≠ B6 := by omega
      generalize ((X jm).2.t : Int) = y at hcl HEX
      generalize (X jm).1 = r at r0 r1 r2 r3 HEX
      go_wp2_with fail
      refine hLf.mono ?_
      rintro e w2 ⟨rfl, hw⟩
      have hw := hw.symm
      subst hw
      go_upto_region 10 with (fail)
      have HC := And.intro (show (wr.drewN 1).cell? _ = _ from r0) (And.intro (show (wr.drewN 1).cell? _ = _ from r1) (And.intro (show (wr.drewN 1).cell? _ = _ from r2) (And.intro (show (wr.drewN 1).cell? _ = _ from r3) (show (wr.drewN 1).cell? _ = _ from hcl))))
      refine wp_region_K (fun W => W.cell? ⟨p, 3 + jm * 4, none⟩ = some (.int .i64 r.x0) ∧ W.cell? ⟨p, 3 + jm * 4 + 1, none⟩ = some (.int .i64 r.y0) ∧ W.cell? ⟨p, 3 + jm * 4 + 2, none⟩ = some (.int .i64 r.x1) ∧ W.cell? ⟨p, 3 + jm * 4 + 3, none⟩ = some (.int .i64 r.y1) ∧ W.cell? ⟨q, jm, none⟩ = some (.int .i64 y)) 21 (by kernel_rfl) ?_
      change wpAnyK _ _ _ _ _ 22 (Array.replicate 22 false) _ _
      have hjm64 : (jm : Int) < 64 := by omega
      (refine wpAnyK_take (i := 0) (oi := ?_) (v := ?_) ?_ ?_ ?_ ?_ ?_ ?_ ?_ ?_ ?_; rotate_left 2; (focus (simp only [List.getElem?_toArray, List.getElem?_cons_zero, List.getElem?_cons_succ]; rfl)); (focus kernel_rfl); (focus kernel_rfl); (focus kernel_rfl); (focus kernel_rfl); (focus exact fun _ _ _ h => h); (focus (refine Or.inl ⟨by rfl, ?_⟩; intro W hW; (try dsimp only at hW); go_simp; try with_reducible rfl)); (focus exact HC); (try simp only [Act.put, List.setIfInBounds_toArray, List.set_cons_zero, List.set_cons_succ]))
      (refine wpAnyK_take (i := 1) (oi := ?_) (v := ?_) ?_ ?_ ?_ ?_ ?_ ?_ ?_ ?_ ?_; rotate_left 2; (focus (simp only [List.getElem?_toArray, List.getElem?_cons_zero, List.getElem?_cons_succ]; rfl)); (focus kernel_rfl); (focus kernel_rfl); (focus kernel_rfl); (focus kernel_rfl); (focus exact fun _ _ _ h => h); (focus (refine Or.inl ⟨by rfl, ?_⟩; intro W hW; (try dsimp only at hW); go_simp; try with_reducible rfl)); (focus exact HC); (try simp only [Act.put, List.setIfInBounds_toArray, List.set_cons_zero, List.set_cons_succ]))
      (refine wpAnyK_take (i := 2) (oi := ?_) (v := ?_) ?_ ?_ ?_ ?_ ?_ ?_ ?_ ?_ ?_; rotate_left 2; (focus (simp only [List.getElem?_toArray, List.getElem?_cons_zero, List.getElem?_cons_succ]; rfl)); (focus kernel_rfl); (focus kernel_rfl); (focus kernel_rfl); (focus kernel_rfl); (focus exact fun _ _ _ h => h); (focus (refine Or.inl ⟨by rfl, ?_⟩; intro W hW; (try dsimp only at hW); go_simp; try with_reducible rfl)); (focus exact HC); (try simp only [Act.put, List.setIfInBounds_toArray, List.set_cons_zero, List.set_cons_succ]))
      (refine wpAnyK_take (i := 3) (oi := ?_) (v := ?_) ?_ ?_ ?_ ?_ ?_ ?_ ?_ ?_ ?_; rotate_left 2; (focus (simp only [List.getElem?_toArray, List.getElem?_cons_zero, List.getElem?_cons_succ]; rfl)); (focus kernel_rfl); (focus kernel_rfl); (focus kernel_rfl); (focus kernel_rfl); (focus exact fun _ _ _ h => h); (focus (refine Or.inl ⟨by rfl, ?_⟩; intro W hW; (try dsimp only at hW); go_simp; try with_reducible rfl)); (focus exact HC); (try simp only [Act.put, List.setIfInBounds_toArray, List.set_cons_zero, List.set_cons_succ]))
      (refine wpAnyK_take (i := 4) (oi := ?_) (v := ?_) ?_ ?_ ?_ ?_ ?_ ?_ ?_ ?_ ?_; rotate_left 2; (focus (simp only [List.getElem?_toArray, List.getElem?_cons_zero, List.getElem?_cons_succ]; rfl)); (focus kernel_rfl); (focus kernel_rfl); (focus kernel_rfl); (focus kernel_rfl); (focus exact fun _ _ _ h => h); (focus (refine Or.inl ⟨by rfl, ?_⟩; intro W hW; (try dsimp only at hW); go_simp; try with_reducible rfl)); (focus exact HC); (try simp only [Act.put, List.setIfInBounds_toArray, List.set_cons_zero, List.set_cons_succ]))
      (refine wpAnyK_take (i := 5) (oi := ?_) (v := ?_) ?_ ?_ ?_ ?_ ?_ ?_ ?_ ?_ ?_; rotate_left 2; (focus (simp only [List.getElem?_toArray, List.getElem?_cons_zero, List.getElem?_cons_succ]; rfl)); (focus kernel_rfl); (focus kernel_rfl); (focus kernel_rfl); (focus kernel_rfl); (focus exact fun _ _ _ h => h); (focus (refine Or.inl ⟨by rfl, ?_⟩; intro W hW; (try dsimp only at hW); go_simp; try with_reducible rfl)); (focus exact HC); (try simp only [Act.put, List.setIfInBounds_toArray, List.set_cons_zero, List.set_cons_succ]))
      (refine wpAnyK_take (i := 6) (oi := ?_) (v := ?_) ?_ ?_ ?_ ?_ ?_ ?_ ?_ ?_ ?_; rotate_left 2; (focus (simp only [List.getElem?_toArray, List.getElem?_cons_zero, List.getElem?_cons_succ]; rfl)); (focus kernel_rfl); (focus kernel_rfl); (focus kernel_rfl); (focus kernel_rfl); (focus exact fun _ _ _ h => h); (focus (refine Or.inl ⟨by rfl, ?_⟩; intro W hW; (try dsimp only at hW); go_simp; try with_reducible rfl)); (focus exact HC); (try simp only [Act.put, List.setIfInBounds_toArray, List.set_cons_zero, List.set_cons_succ]))
      (refine wpAnyK_take (i := 7) (oi := ?_) (v := ?_) ?_ ?_ ?_ ?_ ?_ ?_ ?_ ?_ ?_; rotate_left 2; (focus (simp only [List.getElem?_toArray, List.getElem?_cons_zero, List.getElem?_cons_succ]; rfl)); (focus kernel_rfl); (focus kernel_rfl); (focus kernel_rfl); (focus kernel_rfl); (focus exact fun _ _ _ h => h); (focus (refine Or.inl ⟨by rfl, ?_⟩; intro W hW; (try dsimp only at hW); go_simp; try with_reducible rfl)); (focus exact HC); (try simp only [Act.put, List.setIfInBounds_toArray, List.set_cons_zero, List.set_cons_succ]))
      (refine wpAnyK_take (i := 8) (oi := ?_) (v := ?_) ?_ ?_ ?_ ?_ ?_ ?_ ?_ ?_ ?_; rotate_left 2; (focus (simp only [List.getElem?_toArray, List.getElem?_cons_zero, List.getElem?_cons_succ]; rfl)); (focus kernel_rfl); (focus kernel_rfl); (focus kernel_rfl); (focus kernel_rfl); (focus exact fun _ _ _ h => h); (focus (refine Or.inl ⟨by rfl, ?_⟩; intro W hW; (try dsimp only at hW); go_simp; try with_reducible rfl)); (focus exact HC); (try simp only [Act.put, List.setIfInBounds_toArray, List.set_cons_zero, List.set_cons_succ]))
      (refine wpAnyK_take (i := 9) (oi := ?_) (v := ?_) ?_ ?_ ?_ ?_ ?_ ?_ ?_ ?_ ?_; rotate_left 2; (focus (simp only [List.getElem?_toArray, List.getElem?_cons_zero, List.getElem?_cons_succ]; rfl)); (focus kernel_rfl); (focus kernel_rfl); (focus kernel_rfl); (focus kernel_rfl); (focus exact fun _ _ _ h => h); (focus (refine Or.inl ⟨by rfl, ?_⟩; intro W hW; (try dsimp only at hW); go_simp; try with_reducible rfl)); (focus exact HC); (try simp only [Act.put, List.setIfInBounds_toArray, List.set_cons_zero, List.set_cons_succ]))
      (refine wpAnyK_take (i := 10) (oi := ?_) (v := ?_) ?_ ?_ ?_ ?_ ?_ ?_ ?_ ?_ ?_; rotate_left 2; (focus (simp only [List.getElem?_toArray, List.getElem?_cons_zero, List.getElem?_cons_succ]; rfl)); (focus kernel_rfl); (focus kernel_rfl); (focus kernel_rfl); (focus kernel_rfl); (focus exact fun _ _ _ h => h); (focus (refine Or.inl ⟨by rfl, ?_⟩; intro W hW; (try dsimp only at hW); go_simp; try with_reducible rfl)); (focus exact HC); (try simp only [Act.put, List.setIfInBounds_toArray, List.set_cons_zero, List.set_cons_succ]))
      (refine wpAnyK_take (i := 11) (oi := ?_) (v := ?_) ?_ ?_ ?_ ?_ ?_ ?_ ?_ ?_ ?_; rotate_left 2; (focus (simp only [List.getElem?_toArray, List.getElem?_cons_zero, List.getElem?_cons_succ]; rfl)); (focus kernel_rfl); (focus kernel_rfl); (focus kernel_rfl); (focus kernel_rfl); (focus exact fun _ _ _ h => h); (focus (refine Or.inl ⟨by rfl, ?_⟩; intro W hW; (try dsimp only at hW); go_simp; try with_reducible rfl)); (focus exact HC); (try simp only [Act.put, List.setIfInBounds_toArray, List.set_cons_zero, List.set_cons_succ]))
      (refine wpAnyK_take (i := 12) (oi := ?_) (v := ?_) ?_ ?_ ?_ ?_ ?_ ?_ ?_ ?_ ?_; rotate_left 2; (focus (simp only [List.getElem?_toArray, List.getElem?_cons_zero, List.getElem?_cons_succ]; rfl)); (focus kernel_rfl); (focus kernel_rfl); (focus kernel_rfl); (focus kernel_rfl); (focus exact fun _ _ _ h => h); (focus (refine Or.inl ⟨by rfl, ?_⟩; intro W hW; (try dsimp only at hW); go_simp; try with_reducible rfl)); (focus exact HC); (try simp only [Act.put, List.setIfInBounds_toArray, List.set_cons_zero, List.set_cons_succ]))
      (refine wpAnyK_take (i := 13) (oi := ?_) (v := ?_) ?_ ?_ ?_ ?_ ?_ ?_ ?_ ?_ ?_; rotate_left 2; (focus (simp only [List.getElem?_toArray, List.getElem?_cons_zero, List.getElem?_cons_succ]; rfl)); (focus kernel_rfl); (focus kernel_rfl); (focus kernel_rfl); (focus kernel_rfl); (focus exact fun _ _ _ h => h); (focus (refine Or.inl ⟨by rfl, ?_⟩; intro W hW; (try dsimp only at hW); go_simp; try with_reducible rfl)); (focus exact HC); (try simp only [Act.put, List.setIfInBounds_toArray, List.set_cons_zero, List.set_cons_succ]))
      (refine wpAnyK_take (i := 14) (oi := ?_) (v := ?_) ?_ ?_ ?_ ?_ ?_ ?_ ?_ ?_ ?_; rotate_left 2; (focus (simp only [List.getElem?_toArray, List.getElem?_cons_zero, List.getElem?_cons_succ]; rfl)); (focus kernel_rfl); (focus kernel_rfl); (focus kernel_rfl); (focus kernel_rfl); (focus exact fun _ _ _ h => h); (focus (refine Or.inl ⟨by rfl, ?_⟩; intro W hW; (try dsimp only at hW); go_simp; try with_reducible rfl)); (focus exact HC); (try simp only [Act.put, List.setIfInBounds_toArray, List.set_cons_zero, List.set_cons_succ]))
      (refine wpAnyK_take (i := 16) (oi := ?_) (v := ?_) ?_ ?_ ?_ ?_ ?_ ?_ ?_ ?_ ?_; rotate_left 2; (focus (simp only [List.getElem?_toArray, List.getElem?_cons_zero, List.getElem?_cons_succ]; rfl)); (focus kernel_rfl); (focus kernel_rfl); (focus kernel_rfl); (focus kernel_rfl); (focus exact fun _ _ _ h => h); (focus (refine Or.inl ⟨by rfl, ?_⟩; intro W hW; (try dsimp only at hW); go_simp; try with_reducible rfl)); (focus exact HC); (try simp only [Act.put, List.setIfInBounds_toArray, List.set_cons_zero, List.set_cons_succ]))
      have m5 : (wr.drewN 1).heap[B5]? = _ := n5
      have m6 : (wr.drewN 1).heap[B6]? = _ := n6
      have HXW := Lib.hid (hxw.drewN 1)
      clear r0 r1 r2 r3 hcl hLf n5 n6 hxw hxr hNr hLr
      generalize wr.drewN 1 = wA at HC m5 m6 HXW hIt ⊢
      (refine wpAnyK_one (i := 15) (o := ?_) ?_ ?_ ?_ (fun K hK => ?_); rotate_left 1; (focus kernel_rfl); (focus (simp only [List.getElem?_toArray, List.getElem?_cons_zero, List.getElem?_cons_succ]; rfl)); (focus rfl))
      go_simp
      refine hIt.mono ?_
      rintro e w3 ⟨rfl, hw⟩
      have hw := hw.symm
      subst hw
      refine hK _ _ (fun _ => HC) ?_
      clear hK K hIt
      (try simp only [Act.put, List.setIfInBounds_toArray, List.set_cons_zero, List.set_cons_succ])
      (refine wpAnyK_take (i := 17) (oi := ?_) (v := ?_) ?_ ?_ ?_ ?_ ?_ ?_ ?_ ?_ ?_; rotate_left 2; (focus (simp only [List.getElem?_toArray, List.getElem?_cons_zero, List.getElem?_cons_succ]; rfl)); (focus kernel_rfl); (focus kernel_rfl); (focus kernel_rfl); (focus kernel_rfl); (focus exact fun _ _ _ h => h); (focus (refine Or.inl ⟨by rfl, ?_⟩; intro W hW; (try dsimp only at hW); go_simp; try with_reducible rfl)); (focus exact HC); (try simp only [Act.put, List.setIfInBounds_toArray, List.set_cons_zero, List.set_cons_succ]))
      (refine wpAnyK_take (i := 18) (oi := ?_) (v := ?_) ?_ ?_ ?_ ?_ ?_ ?_ ?_ ?_ ?_; rotate_left 2; (focus (simp only [List.getElem?_toArray, List.getElem?_cons_zero, List.getElem?_cons_succ]; rfl)); (focus kernel_rfl); (focus kernel_rfl); (focus kernel_rfl); (focus kernel_rfl); (focus exact fun _ _ _ h => h); (focus (refine Or.inl ⟨by rfl, ?_⟩; intro W hW; (try dsimp only at hW); go_simp; try with_reducible rfl)); (focus exact HC); (try simp only [Act.put, List.setIfInBounds_toArray, List.set_cons_zero, List.set_cons_succ]))
      have s0 := cellOf m5 0
      have s1 := cellOf m5 1
      simp only [List.getElem?_toArray, List.getElem?_cons_zero, List.getElem?_cons_succ] at s0 s1
      have f0 := frzOf m5 0
      have f1 := frzOf m5 1
      obtain ⟨k0, k1, k2, k3, k4⟩ := HC
      have cc : ∀ {b o : Nat} {u : Value}, b ≠ B5 → wA.cell? ⟨b, o, none⟩ = some u → ((wA.setCell ⟨B5, 0, none⟩ (.int .i64 r.x0)).setCell ⟨B5, 1, none⟩ (.int .i64 r.y0)).cell? ⟨b, o, none⟩ = some u := fun {b o u} hb h => by
        unfold World.cell? at h ⊢
        dsimp only at h ⊢
        rw [setCell_ne 1 hb, setCell_ne 0 hb]; exact h
      have HC2 := And.intro (cc hpB5 k0) (And.intro (cc hpB5 k1) (And.intro (cc hpB5 k2) (And.intro (cc hpB5 k3) (cc hqB5 k4))))
      have z5 := setCell_obj (setCell_obj m5 0 (.int .i64 r.x0)) 1 (.int .i64 r.y0)
      have z6 : ((wA.setCell ⟨B5, 0, none⟩ (.int .i64 r.x0)).setCell ⟨B5, 1, none⟩ (.int .i64 r.y0)).heap[B6]? = _ := ((setCell_ne 1 (Ne.symm hbb) _ none).trans (setCell_ne 0 (Ne.symm hbb) _ none)).trans m6
      have HX2 := Lib.hid ((HXW.out.setCell (p := ⟨B5, 0, none⟩) (by dsimp only; omega) (.int .i64 r.x0)).setCell (p := ⟨B5, 1, none⟩) (by dsimp only; omega) (.int .i64 r.y0))
      simp only [List.setIfInBounds_toArray, List.set_cons_zero, List.set_cons_succ] at z5
      clear k0 k1 k2 k3 k4 cc
      (refine wpAnyK_one (i := 19) (o := ?_) ?_ ?_ ?_ (fun K hK => ?_); rotate_left 1; (focus kernel_rfl); (focus (simp only [List.getElem?_toArray, List.getElem?_cons_zero, List.getElem?_cons_succ]; rfl)); (focus rfl))
      go_simp
      generalize ((wA.setCell ⟨B5, 0, none⟩ (.int .i64 r.x0)).setCell ⟨B5, 1, none⟩ (.int .i64 r.y0)) = wB at HC2 z5 z6 HX2 hK ⊢
      refine hK _ _ (fun _ => HC2) ?_
      clear hK K s0 s1 f0 f1 m5 m6
      have s0 := cellOf z6 0
      have s1 := cellOf z6 1
      simp only [List.getElem?_toArray, List.getElem?_cons_zero, List.getElem?_cons_succ] at s0 s1
      have f0 := frzOf z6 0
      have f1 := frzOf z6 1
      obtain ⟨k0, k1, k2, k3, k4⟩ := HC2
      have cc : ∀ {b o : Nat} {u : Value}, b ≠ B6 → wB.cell? ⟨b, o, none⟩ = some u → ((wB.setCell ⟨B6, 0, none⟩ (.int .i64 r.x1)).setCell ⟨B6, 1, none⟩ (.int .i64 r.y1)).cell? ⟨b, o, none⟩ = some u := fun {b o u} hb h => by
        unfold World.cell? at h ⊢
        dsimp only at h ⊢
        rw [setCell_ne 1 hb, setCell_ne 0 hb]; exact h
      have HC3 := And.intro (cc hpB6 k0) (And.intro (cc hpB6 k1) (And.intro (cc hpB6 k2) (And.intro (cc hpB6 k3) (cc hqB6 k4))))
      have y6 := setCell_obj (setCell_obj z6 0 (.int .i64 r.x1)) 1 (.int .i64 r.y1)
      have y5 : ((wB.setCell ⟨B6, 0, none⟩ (.int .i64 r.x1)).setCell ⟨B6, 1, none⟩ (.int .i64 r.y1)).heap[B5]? = _ := ((setCell_ne 1 hbb _ none).trans (setCell_ne 0 hbb _ none)).trans z5
      have HX3 := Lib.hid ((HX2.out.setCell (p := ⟨B6, 0, none⟩) (by dsimp only; omega) (.int .i64 r.x1)).setCell (p := ⟨B6, 1, none⟩) (by dsimp only; omega) (.int .i64 r.y1))
      simp only [List.setIfInBounds_toArray, List.set_cons_zero, List.set_cons_succ] at y6
      clear k0 k1 k2 k3 k4 cc
      (refine wpAnyK_one (i := 20) (o := ?_) ?_ ?_ ?_ (fun K hK => ?_); rotate_left 1; (focus kernel_rfl); (focus (simp only [List.getElem?_toArray, List.getElem?_cons_zero, List.getElem?_cons_succ]; rfl)); (focus rfl))
      go_simp
      generalize ((wB.setCell ⟨B6, 0, none⟩ (.int .i64 r.x1)).setCell ⟨B6, 1, none⟩ (.int .i64 r.y1)) = wC at HC3 y5 y6 HX3 hK ⊢
      refine hK _ _ (fun _ => HC3) ?_
      clear hK K s0 s1 f0 f1 z5 z6
      (refine wpAnyK_one (i := 21) (o := ?_) ?_ ?_ ?_ (fun K hK => ?_); rotate_left 1; (focus kernel_rfl); (focus (simp only [List.getElem?_toArray, List.getElem?_cons_zero, List.getElem?_cons_succ]; rfl)); (focus rfl))
      go_simp
      refine hK _ _ (fun _ => HC3) ?_
      clear hK K HC3
      refine wpAnyK_done (by kernel_rfl) ?_ _
      have a0 := cellOf y5 0
      have a1 := cellOf y5 1
      have a2 := cellOf y6 0
      have a3 := cellOf y6 1
      simp only [List.getElem?_toArray, List.getElem?_cons_zero, List.getElem?_cons_succ] at a0 a1 a2 a3
      clear y5 y6
      go_wp2_with fail
      refine bodyPost_ret (v := .tuple #[.agg #[.int .i64 r.x0, .int .i64 r.y0], .agg #[.int .i64 r.x1, .int .i64 r.y1], .int .i64 y]) (by simp [results, Try.results69, go_sem, a0, a1, a2, a3]) rfl (by first | exact ⟨r, y, HEX.out, rfl, HX3.out⟩ | exact ⟨(r, y), HEX.out, rfl, HX3.out⟩)
    have hNr := HNN.out.ex (HXA.out.trans hxr)
    have r0 : wr.cell? ⟨p, 3 + jj * 4, none⟩ = some (.int .i64 (X jj).1.x0) := cell_rcell hNr (i := jj) (j := 0) (by omega) (by omega)
    have r1 : wr.cell? ⟨p, 3 + jj * 4 + 1, none⟩ = some (.int .i64 (X jj).1.y0) := cell_rcell hNr (i := jj) (j := 1) (by omega) (by omega)
    have r2 : wr.cell? ⟨p, 3 + jj * 4 + 2, none⟩ = some (.int .i64 (X jj).1.x1) := cell_rcell hNr (i := jj) (j := 2) (by omega) (by omega)
    have r3 : wr.cell? ⟨p, 3 + jj * 4 + 3, none⟩ = some (.int .i64 (X jj).1.y1) := cell_rcell hNr (i := jj) (j := 3) (by omega) (by omega)
    have hxb := hxr.alloc (.cells (boxV (X jj).1).toArray 91)
    have nb := heap_alloc_new wr (.cells (boxV (X jj).1).toArray 91)
    clear hNr hxr
    go_upto_region 6 with (fail)
    change Code.wp _ _ _ _ (wr.alloc (.cells (boxV (X jj).1).toArray 91))
    generalize hBb : wr.heap.size = Bb at nb ⊢
    generalize (wr.alloc (.cells (boxV (X jj).1).toArray 91)) = w3 at hxb nb ⊢
    have q0 := cellOf nb 0
    have q1 := cellOf nb 1
    have q2 := cellOf nb 2
    have q3 := cellOf nb 3
    simp only [boxV, List.getElem?_toArray, List.getElem?_cons_zero, List.getElem?_cons_succ] at q0 q1 q2 q3
    have hbl := (Array.getElem?_eq_some_iff.1 nb).1
    have HXB := Lib.hid hxb
    clear r0 r1 r2 r3 hxb nb
    rcases hcase with ⟨h0, rfl, rfl⟩ | ⟨jm, hjm, rfl, rfl, HMN⟩
    · have hmn : Hid (∀ i, i < jj + 1 → (X i).1.x1 ≤ (X jj).1.x1) := Lib.hid fun i hi => by
        have : i = jj := by omega
        subst this; exact Int.le_refl _
      have e0 : ((jj : Int) == 0) = true := by simp [h0]
      have H0 := Lib.hid h0
      clear h0
      go_upto_region 7 with (fail)
      (refine Mix.wp_region_dr (by kernel_rfl) (by kernel_rfl) ?_; (repeat (go_big_quiet_step (fail))); refine wpQuiet_nil ?_; intro nq)
      clear q0 q1 q2 q3
      go_wp2_with fail
      go_roundw
      case measure => simp [intOf]; omega
      case rel => exact ⟨jj + 1, by omega, by go_num, .inr ⟨jj, by omega, rfl, rfl, hmn⟩, HXB.out.drewN _⟩
    · have e0 : ((jj : Int) == 0) = false := by simp; omega
      by_cases hc : (X jm).1.x1 < (X jj).1.x1
      · have hd : decide ((X jm).1.x1 < (X jj).1.x1) = true := decide_eq_true hc
        have hmn : Hid (∀ i, i < jj + 1 → (X i).1.x1 ≤ (X jj).1.x1) := Lib.hid fun i hi => by
          by_cases hij : i = jj
          · subst hij; exact Int.le_refl _
          · have := HMN.out i (by omega); omega
        have H0 := Lib.hid hc
        clear hc
        go_upto_region 7 with (fail)
        (refine Mix.wp_region_dr (by kernel_rfl) (by kernel_rfl) ?_; (repeat (go_big_quiet_step (fail))); refine wpQuiet_nil ?_; intro nq)
        clear q0 q1 q2 q3
        go_wp2_with fail
        go_roundw
        case measure => simp [intOf]; omega
        case rel => exact ⟨jj + 1, by omega, by go_num, .inr ⟨jj, by omega, rfl, rfl, hmn⟩, HXB.out.drewN _⟩
      · have hd : decide ((X jm).1.x1 < (X jj).1.x1) = false := decide_eq_false hc
        have hmn : Hid (∀ i, i < jj + 1 → (X i).1.x1 ≤ (X jm).1.x1) := Lib.hid fun i hi => by
          by_cases hij : i = jj
          · subst hij; omega
          · exact HMN.out i (by omega)
        have H0 := Lib.hid hc
        clear hc
        go_wp2_with fail
        go_roundw
        case measure => simp [intOf]; omega
        case rel => exact ⟨jj + 1, by omega, by go_num, .inr ⟨jm, by omega, rfl, rfl, hmn⟩, HXB.out⟩
set_option maxRecDepth 100000 in
set_option maxHeartbeats 1600000 in
theorem endBraR (c : Int) (Z : Nat → Prop) (w0 : World) (h : Nat) (IH : EndCR c Z w0 h) : EndCR c Z w0 (h + 1) := by
  rintro v ⟨n, E⟩ s ⟨p, q, ic, X, rfl, ⟨hN, hL, -, hpq, hn⟩, hE, he, -⟩ hn1 hW w hx
  dsimp only at hN hL hE he hn hn1
  subst hE
  dsimp only [leafB] at hN hL
  have HW := Lib.hid hW
  have HE := Lib.hid he
  have HNN := Lib.hid (hN.ex hx)
  have HLL := Lib.hid ((Chg.ex (S := fun _ => False) hx).list hL (fun h => h))
  clear he hW hN hL
  have n0 : (0 : Int) ≤ (n : Int) := by omega
  have n1 : (n : Int) ≤ 64 := by omega
  go_enter Try.func69, Try.ntmps69
  go_upto_region 3 with (fail)
  have hxa := ((Mix.Ex.refl w).alloc (.cells #[.int .i64 0, .int .i64 0] 28)).alloc (.cells #[.int .i64 0, .int .i64 0] 28)
  have n5 := ((Mix.Ex.refl (w.alloc (.cells #[.int .i64 0, .int .i64 0] 28))).alloc (.cells #[.int .i64 0, .int .i64 0] 28)).obj (heap_alloc_new w (.cells #[.int .i64 0, .int .i64 0] 28))
  have n6 := heap_alloc_new (w.alloc (.cells #[.int .i64 0, .int .i64 0] 28)) (.cells #[.int .i64 0, .int .i64 0] 28)
  rw [World.size_alloc] at n6
  change Code.wp _ _ _ _ ((w.alloc (.cells #[.int .i64 0, .int .i64 0] 28)).alloc (.cells #[.int .i64 0, .int .i64 0] 28))
  generalize ((w.alloc (.cells #[.int .i64 0, .int .i64 0] 28)).alloc (.cells #[.int .i64 0, .int .i64 0] 28)) = w1 at hxa n5 n6 ⊢
  obtain ⟨B5, hB5⟩ : ∃ B5, w.heap.size = B5 := ⟨_, rfl⟩
  obtain ⟨B6, hB6⟩ : ∃ B6, w.heap.size + 1 = B6 := ⟨_, rfl⟩
  rw [hB6] at n6 ⊢
  rw [hB5] at n5 ⊢
  have c2 : w1.cell? ⟨p, 2, none⟩ = some (.int .i16 n) := (HNN.out.ex hxa).cell2
  have HXA := Lib.hid hxa
  have N5 := Lib.hid n5
  have N6 := Lib.hid n6
  clear hxa n5 n6
  (refine Mix.wp_region_dr (by kernel_rfl) (by kernel_rfl) ?_; (repeat (go_big_quiet_step (fail))); refine wpQuiet_nil ?_; intro nq)
  clear c2
  go_wp2_with fail
  go_loopw [7, 8, 20] (fun a b i wr => ∃ jj : Nat, jj ≤ n ∧ i = .int .i64 jj ∧ ((jj = 0 ∧ a = .int .i64 0 ∧ b = .int .i64 0) ∨ ∃ jm : Nat, jm < jj ∧ a = .int .i64 jm ∧ b = .int .i64 (X jm).1.x1 ∧ Hid (∀ i, i < jj → (X i).1.x1 ≤ (X jm).1.x1)) ∧ Mix.Ex w1 wr) (fun _ _ i _ => n - (intOf i).toNat)
  case atStart => exact ⟨0, by omega, rfl, .inl ⟨rfl, rfl, rfl⟩, (Mix.Ex.refl _).drewN _⟩
  case round =>
    obtain ⟨jj, hj, rfl, hcase, hxr⟩ := hrel
    by_cases hlt : jj < n
    case neg =>
      have hjn : jj = n := by omega
      subst hjn
      rcases hcase with ⟨h0, -⟩ | ⟨jm, hjm, rfl, rfl, HMN⟩
      · omega
      have hxw := HXA.out.trans hxr
      have hNr := HNN.out.ex hxw
      have hLr : ListAt wr q (elT false) (fE (mp An.v X)) := (Chg.ex (S := fun _ => False) hxw).list HLL.out (fun h => h)
      have hwj := fun i hi => Wf_succ.1 (HW.out.2 (mp An.t X i) (mem_lst.2 ⟨i, hi, rfl⟩))
      have hcl : wr.cell? ⟨q, jm, none⟩ = some ((X jm).2.v) := hLr.cell (i := jm) (by omega)
      have hLf := leaf_c wr p _ hNr
      have hCh := children_c wr p _ hNr rfl
      dsimp only at hLf hCh
      have hI := IH _ _ _ (HE.out (X jm) (mem_lst.2 ⟨jm, hjm, rfl⟩)) (hwj jm hjm).1 (hwj jm hjm).2.2 wr (hx.trans hxw)
      have HEX : Hid (∀ x, ExR (itsN h (X jm).2.t) x → ExR (itsN (h + 1) ⟨jj, mp An.t X⟩) x) := Lib.hid fun x hx =>
        pickR (j := jm) (fun i hi => (HW.out.2 (mp An.t X i) (mem_lst.2 ⟨i, hi, rfl⟩)).bd) hjm (fun i hi => HMN.out i hi) hx
      have HN5 := Lib.hid (hxr.obj N5.out)
      have HN6 := Lib.hid (hxr.obj N6.out)
      have HXW := Lib.hid hxw
      have hbb : B5 ≠ B6 := by omega
      clear hNr hLr hwj hxw hxr
      generalize (X jm).2.v = y at hcl hI
      go_wp2_with fail
      refine hLf.mono ?_
      rintro e w2 ⟨rfl, hw⟩
      have hw := hw.symm
      subst hw
      go_wp2_with fail
      refine hCh.mono ?_
      rintro e w2 ⟨rfl, hw⟩
      have hw := hw.symm
      subst hw
      clear hLf hCh
      have hjm64 : (jm : Int) < 64 := by omega
      go_wp2_with fail
      refine hI.mono ?_
      rintro e wA ⟨x, hxm, rfl, hxA⟩
      have m5 := hxA.obj HN5.out
      have m6 := hxA.obj HN6.out
      have hXA := HXW.out.trans hxA
      have s0 := cellOf m5 0
      have s1 := cellOf m5 1
      have s2 := cellOf m6 0
      have s3 := cellOf m6 1
      simp only [List.getElem?_toArray, List.getElem?_cons_zero, List.getElem?_cons_succ] at s0 s1 s2 s3
      have f0 := frzOf m5 0
      have f1 := frzOf m5 1
      have f2 := frzOf m6 0
      have f3 := frzOf m6 1
      have z5 := setCell_obj (setCell_obj m5 0 (.int .i64 x.1.x0)) 1 (.int .i64 x.1.y0)
      have z6 : ((wA.setCell ⟨B5, 0, none⟩ (.int .i64 x.1.x0)).setCell ⟨B5, 1, none⟩ (.int .i64 x.1.y0)).heap[B6]? = _ := ((setCell_ne 1 (Ne.symm hbb) _ none).trans (setCell_ne 0 (Ne.symm hbb) _ none)).trans m6
      have y6 := setCell_obj (setCell_obj z6 0 (.int .i64 x.1.x1)) 1 (.int .i64 x.1.y1)
      have y5 : ((((wA.setCell ⟨B5, 0, none⟩ (.int .i64 x.1.x0)).setCell ⟨B5, 1, none⟩ (.int .i64 x.1.y0)).setCell ⟨B6, 0, none⟩ (.int .i64 x.1.x1)).setCell ⟨B6, 1, none⟩ (.int .i64 x.1.y1)).heap[B5]? = _ := ((setCell_ne 1 hbb _ none).trans (setCell_ne 0 hbb _ none)).trans z5
      simp only [List.setIfInBounds_toArray, List.set_cons_zero, List.set_cons_succ] at y6 y5
      have hX3 := (((hXA.setCell (p := ⟨B5, 0, none⟩) (by dsimp only; omega) (.int .i64 x.1.x0)).setCell (p := ⟨B5, 1, none⟩) (by dsimp only; omega) (.int .i64 x.1.y0)).setCell (p := ⟨B6, 0, none⟩) (by dsimp only; omega) (.int .i64 x.1.x1)).setCell (p := ⟨B6, 1, none⟩) (by dsimp only; omega) (.int .i64 x.1.y1)
      have Y5 := Lib.hid y5
      have Y6 := Lib.hid y6
      have HX3 := Lib.hid hX3
      clear z5 z6 y5 y6 hX3 m5 m6 hxA hXA
      go_wp2_with fail
      have a0 := cellOf Y5.out 0
      have a1 := cellOf Y5.out 1
      have a2 := cellOf Y6.out 0
      have a3 := cellOf Y6.out 1
      simp only [List.getElem?_toArray, List.getElem?_cons_zero, List.getElem?_cons_succ] at a0 a1 a2 a3
      refine bodyPost_ret (v := .tuple #[.agg #[.int .i64 x.1.x0, .int .i64 x.1.y0], .agg #[.int .i64 x.1.x1, .int .i64 x.1.y1], .int .i64 x.2]) (by simp [results, Try.results69, go_sem, a0, a1, a2, a3]) rfl (by first | exact ⟨x, HEX.out x hxm, rfl, HX3.out⟩ | exact ⟨x.1, x.2, HEX.out x hxm, rfl, HX3.out⟩)
    have hNr := HNN.out.ex (HXA.out.trans hxr)
    have r0 : wr.cell? ⟨p, 3 + jj * 4, none⟩ = some (.int .i64 (X jj).1.x0) := cell_rcell hNr (i := jj) (j := 0) (by omega) (by omega)
    have r1 : wr.cell? ⟨p, 3 + jj * 4 + 1, none⟩ = some (.int .i64 (X jj).1.y0) := cell_rcell hNr (i := jj) (j := 1) (by omega) (by omega)
    have r2 : wr.cell? ⟨p, 3 + jj * 4 + 2, none⟩ = some (.int .i64 (X jj).1.x1) := cell_rcell hNr (i := jj) (j := 2) (by omega) (by omega)
    have r3 : wr.cell? ⟨p, 3 + jj * 4 + 3, none⟩ = some (.int .i64 (X jj).1.y1) := cell_rcell hNr (i := jj) (j := 3) (by omega) (by omega)
    have hxb := hxr.alloc (.cells (boxV (X jj).1).toArray 91)
    have nb := heap_alloc_new wr (.cells (boxV (X jj).1).toArray 91)
    clear hNr hxr
    go_upto_region 6 with (fail)
    change Code.wp _ _ _ _ (wr.alloc (.cells (boxV (X jj).1).toArray 91))
    generalize hBb : wr.heap.size = Bb at nb ⊢
    generalize (wr.alloc (.cells (boxV (X jj).1).toArray 91)) = w3 at hxb nb ⊢
    have q0 := cellOf nb 0
    have q1 := cellOf nb 1
    have q2 := cellOf nb 2
    have q3 := cellOf nb 3
    simp only [boxV, List.getElem?_toArray, List.getElem?_cons_zero, List.getElem?_cons_succ] at q0 q1 q2 q3
    have hbl := (Array.getElem?_eq_some_iff.1 nb).1
    have HXB := Lib.hid hxb
    clear r0 r1 r2 r3 hxb nb
    rcases hcase with ⟨h0, rfl, rfl⟩ | ⟨jm, hjm, rfl, rfl, HMN⟩
    · have hmn : Hid (∀ i, i < jj + 1 → (X i).1.x1 ≤ (X jj).1.x1) := Lib.hid fun i hi => by
        have : i = jj := by omega
        subst this; exact Int.le_refl _
      have e0 : ((jj : Int) == 0) = true := by simp [h0]
      have H0 := Lib.hid h0
      clear h0
      go_upto_region 7 with (fail)
      (refine Mix.wp_region_dr (by kernel_rfl) (by kernel_rfl) ?_; (repeat (go_big_quiet_step (fail))); refine wpQuiet_nil ?_; intro nq)
      clear q0 q1 q2 q3
      go_wp2_with fail
      go_roundw
      case measure => simp [intOf]; omega
      case rel => exact ⟨jj + 1, by omega, by go_num, .inr ⟨jj, by omega, rfl, rfl, hmn⟩, HXB.out.drewN _⟩
    · have e0 : ((jj : Int) == 0) = false := by simp; omega
      by_cases hc : (X jm).1.x1 < (X jj).1.x1
      · have hd : decide ((X jm).1.x1 < (X jj).1.x1) = true := decide_eq_true hc
        have hmn : Hid (∀ i, i < jj + 1 → (X i).1.x1 ≤ (X jj).1.x1) := Lib.hid fun i hi => by
          by_cases hij : i = jj
          · subst hij; exact Int.le_refl _
          · have := HMN.out i (by omega); omega
        have H0 := Lib.hid hc
        clear hc
        go_upto_region 7 with (fail)
        (refine Mix.wp_region_dr (by kernel_rfl) (by kernel_rfl) ?_; (repeat (go_big_quiet_step (fail))); refine wpQuiet_nil ?_; intro nq)
        clear q0 q1 q2 q3
        go_wp2_with fail
        go_roundw
        case measure => simp [intOf]; omega
        case rel => exact ⟨jj + 1, by omega, by go_num, .inr ⟨jj, by omega, rfl, rfl, hmn⟩, HXB.out.drewN _⟩
      · have hd : decide ((X jm).1.x1 < (X jj).1.x1) = false := decide_eq_false hc
        have hmn : Hid (∀ i, i < jj + 1 → (X i).1.x1 ≤ (X jm).1.x1) := Lib.hid fun i hi => by
          by_cases hij : i = jj
          · subst hij; omega
          · exact HMN.out i (by omega)
        have H0 := Lib.hid hc
        clear hc
        go_wp2_with fail
        go_roundw
        case measure => simp [intOf]; omega
        case rel => exact ⟨jj + 1, by omega, by go_num, .inr ⟨jm, by omega, rfl, rfl, hmn⟩, HXB.out⟩
theorem endAllR (c : Int) (Z : Nat → Prop) (w0 : World) : ∀ h, EndCR c Z w0 h
  | 0 => endLeafR c Z w0
  | h + 1 => endBraR c Z w0 h (endAllR c Z w0 h)
/-- What maxist does at a node of height h. -/
def EndCT (c : Int) (Z : Nat → Prop) (w0 : World) (h : Nat) : Prop :=
  ∀ (v : Value) (t : Nde (El h)) (s : Nat → Prop), ElAt c Z w0 (h + 1) v t s → 1 ≤ t.n → WfN h t → ∀ w, Mix.Ex w0 w →
    Calls Try.prog 69 #[v, .int .i64 1] w fun e w' => ∃ x, ExT (itsN h t) x ∧ e = .returned (.tuple #[.agg #[.int .i64 x.1.x0, .int .i64 x.1.y0], .agg #[.int .i64 x.1.x1, .int .i64 x.1.y1], .int .i64 x.2]) ∧ Mix.Ex w w'
set_option maxRecDepth 100000 in
set_option maxHeartbeats 1600000 in
theorem endLeafT (c : Int) (Z : Nat → Prop) (w0 : World) : EndCT c Z w0 0 := by
  rintro v ⟨n, E⟩ s ⟨p, q, ic, X, rfl, ⟨hN, hL, -, hpq, hn⟩, hE, he, -⟩ hn1 hW w hx
  dsimp only at hN hL hE he hn hn1
  subst hE
  dsimp only [leafB] at hN hL
  have HW := Lib.hid hW
  have HE := Lib.hid he
  have HNN := Lib.hid (hN.ex hx)
  have HLL := Lib.hid ((Chg.ex (S := fun _ => False) hx).list hL (fun h => h))
  clear he hW hN hL
  have n0 : (0 : Int) ≤ (n : Int) := by omega
  have n1 : (n : Int) ≤ 64 := by omega
  go_enter Try.func69, Try.ntmps69
  go_upto_region 3 with (fail)
  have hxa := ((Mix.Ex.refl w).alloc (.cells #[.int .i64 0, .int .i64 0] 28)).alloc (.cells #[.int .i64 0, .int .i64 0] 28)
  have n5 := ((Mix.Ex.refl (w.alloc (.cells #[.int .i64 0, .int .i64 0] 28))).alloc (.cells #[.int .i64 0, .int .i64 0] 28)).obj (heap_alloc_new w (.cells #[.int .i64 0, .int .i64 0] 28))
  have n6 := heap_alloc_new (w.alloc (.cells #[.int .i64 0, .int .i64 0] 28)) (.cells #[.int .i64 0, .int .i64 0] 28)
  rw [World.size_alloc] at n6
  change Code.wp _ _ _ _ ((w.alloc (.cells #[.int .i64 0, .int .i64 0] 28)).alloc (.cells #[.int .i64 0, .int .i64 0] 28))
  generalize ((w.alloc (.cells #[.int .i64 0, .int .i64 0] 28)).alloc (.cells #[.int .i64 0, .int .i64 0] 28)) = w1 at hxa n5 n6 ⊢
  obtain ⟨B5, hB5⟩ : ∃ B5, w.heap.size = B5 := ⟨_, rfl⟩
  obtain ⟨B6, hB6⟩ : ∃ B6, w.heap.size + 1 = B6 := ⟨_, rfl⟩
  rw [hB6] at n6 ⊢
  rw [hB5] at n5 ⊢
  have c2 : w1.cell? ⟨p, 2, none⟩ = some (.int .i16 n) := (HNN.out.ex hxa).cell2
  have HXA := Lib.hid hxa
  have N5 := Lib.hid n5
  have N6 := Lib.hid n6
  clear hxa n5 n6
  (refine Mix.wp_region_dr (by kernel_rfl) (by kernel_rfl) ?_; (repeat (go_big_quiet_step (fail))); refine wpQuiet_nil ?_; intro nq)
  clear c2
  go_wp2_with fail
  go_loopw [7, 8, 20] (fun a b i wr => ∃ jj : Nat, jj ≤ n ∧ i = .int .i64 jj ∧ ((jj = 0 ∧ a = .int .i64 0 ∧ b = .int .i64 0) ∨ ∃ jm : Nat, jm < jj ∧ a = .int .i64 jm ∧ b = .int .i64 (X jm).1.y1 ∧ Hid (∀ i, i < jj → (X i).1.y1 ≤ (X jm).1.y1)) ∧ Mix.Ex w1 wr) (fun _ _ i _ => n - (intOf i).toNat)
  case atStart => exact ⟨0, by omega, rfl, .inl ⟨rfl, rfl, rfl⟩, (Mix.Ex.refl _).drewN _⟩
  case round =>
    obtain ⟨jj, hj, rfl, hcase, hxr⟩ := hrel
    by_cases hlt : jj < n
    case neg =>
      have hjn : jj = n := by omega
      subst hjn
      rcases hcase with ⟨h0, -⟩ | ⟨jm, hjm, rfl, rfl, HMN⟩
      · omega
      have hxw := HXA.out.trans hxr
      have hNr := HNN.out.ex hxw
      have hLr : ListAt wr q (elT true) (fE (mp An.v X)) := (Chg.ex (S := fun _ => False) hxw).list HLL.out (fun h => h)
      have hex : ExT (itsN 0 ⟨jj, mp An.t X⟩) ((X jm).1, ((X jm).2.t : Int)) := by
        refine pickT (j := jm) (fun i hi => ?_) hjm (fun i hi => HMN.out i hi) ⟨by simp [its, mp], fun y hy => ?_⟩
        · exact (HW.out.2 (mp An.t X i) (mem_lst.2 ⟨i, hi, rfl⟩)).bd
        · have : y = ((X jm).1, ((X jm).2.t : Int)) := by simpa [its, mp] using hy
          subst this
          exact Int.le_refl _
      have hvx : (X jm).2.v = .int .i64 ((X jm).2.t : Int) := (HE.out (X jm) (mem_lst.2 ⟨jm, hjm, rfl⟩)).1
      have hcl : wr.cell? ⟨q, jm, none⟩ = some (.int .i64 ((X jm).2.t : Int)) := by rw [hLr.cell (i := jm) (by omega)]; show some ((X jm).2.v) = _; rw [hvx]
      have r0 : wr.cell? ⟨p, 3 + jm * 4, none⟩ = some (.int .i64 (X jm).1.x0) := cell_rcell hNr (i := jm) (j := 0) (by omega) (by omega)
      have r1 : wr.cell? ⟨p, 3 + jm * 4 + 1, none⟩ = some (.int .i64 (X jm).1.y0) := cell_rcell hNr (i := jm) (j := 1) (by omega) (by omega)
      have r2 : wr.cell? ⟨p, 3 + jm * 4 + 2, none⟩ = some (.int .i64 (X jm).1.x1) := cell_rcell hNr (i := jm) (j := 2) (by omega) (by omega)
      have r3 : wr.cell? ⟨p, 3 + jm * 4 + 3, none⟩ = some (.int .i64 (X jm).1.y1) := cell_rcell hNr (i := jm) (j := 3) (by omega) (by omega)
      have hLf := leaf_c wr p _ hNr
      have hIt := items_c (wr.drewN 1) p _ (hNr.drewN 1) rfl
      dsimp only at hLf hIt
      have n5 := hxr.obj N5.out
      have n6 := hxr.obj N6.out
      have hpl := hNr.lt
      have hpB5 : p ≠ B5 := by have := HNN.out.lt; omega
      have hpB6 : p ≠ B6 := by have := HNN.out.lt; omega
      have hqB5 : q ≠ B5 := by have := (Array.getElem?_eq_some_iff.1 HLL.out).1; omega
      have hqB6 : q ≠ B6 := by have := (Array.getElem?_eq_some_iff.1 HLL.out).1; omega
      have HEX := Lib.hid hex
      have hbb : B5 ≠ B6 := by omega
      generalize ((X jm).2.t : Int) = y at hcl HEX
      generalize (X jm).1 = r at r0 r1 r2 r3 HEX
      go_wp2_with fail
      refine hLf.mono ?_
      rintro e w2 ⟨rfl, hw⟩
      have hw := hw.symm
      subst hw
      go_upto_region 10 with (fail)
      have HC := And.intro (show (wr.drewN 1).cell? _ = _ from r0) (And.intro (show (wr.drewN 1).cell? _ = _ from r1) (And.intro (show (wr.drewN 1).cell? _ = _ from r2) (And.intro (show (wr.drewN 1).cell? _ = _ from r3) (show (wr.drewN 1).cell? _ = _ from hcl))))
      refine wp_region_K (fun W => W.cell? ⟨p, 3 + jm * 4, none⟩ = some (.int .i64 r.x0) ∧ W.cell? ⟨p, 3 + jm * 4 + 1, none⟩ = some (.int .i64 r.y0) ∧ W.cell? ⟨p, 3 + jm * 4 + 2, none⟩ = some (.int .i64 r.x1) ∧ W.cell? ⟨p, 3 + jm * 4 + 3, none⟩ = some (.int .i64 r.y1) ∧ W.cell? ⟨q, jm, none⟩ = some (.int .i64 y)) 21 (by kernel_rfl) ?_
      change wpAnyK _ _ _ _ _ 22 (Array.replicate 22 false) _ _
      have hjm64 : (jm : Int) < 64 := by omega
      (refine wpAnyK_take (i := 0) (oi := ?_) (v := ?_) ?_ ?_ ?_ ?_ ?_ ?_ ?_ ?_ ?_; rotate_left 2; (focus (simp only [List.getElem?_toArray, List.getElem?_cons_zero, List.getElem?_cons_succ]; rfl)); (focus kernel_rfl); (focus kernel_rfl); (focus kernel_rfl); (focus kernel_rfl); (focus exact fun _ _ _ h => h); (focus (refine Or.inl ⟨by rfl, ?_⟩; intro W hW; (try dsimp only at hW); go_simp; try with_reducible rfl)); (focus exact HC); (try simp only [Act.put, List.setIfInBounds_toArray, List.set_cons_zero, List.set_cons_succ]))
      (refine wpAnyK_take (i := 1) (oi := ?_) (v := ?_) ?_ ?_ ?_ ?_ ?_ ?_ ?_ ?_ ?_; rotate_left 2; (focus (simp only [List.getElem?_toArray, List.getElem?_cons_zero, List.getElem?_cons_succ]; rfl)); (focus kernel_rfl); (focus kernel_rfl); (focus kernel_rfl); (focus kernel_rfl); (focus exact fun _ _ _ h => h); (focus (refine Or.inl ⟨by rfl, ?_⟩; intro W hW; (try dsimp only at hW); go_simp; try with_reducible rfl)); (focus exact HC); (try simp only [Act.put, List.setIfInBounds_toArray, List.set_cons_zero, List.set_cons_succ]))
      (refine wpAnyK_take (i := 2) (oi := ?_) (v := ?_) ?_ ?_ ?_ ?_ ?_ ?_ ?_ ?_ ?_; rotate_left 2; (focus (simp only [List.getElem?_toArray, List.getElem?_cons_zero, List.getElem?_cons_succ]; rfl)); (focus kernel_rfl); (focus kernel_rfl); (focus kernel_rfl); (focus kernel_rfl); (focus exact fun _ _ _ h => h); (focus (refine Or.inl ⟨by rfl, ?_⟩; intro W hW; (try dsimp only at hW); go_simp; try with_reducible rfl)); (focus exact HC); (try simp only [Act.put, List.setIfInBounds_toArray, List.set_cons_zero, List.set_cons_succ]))
      (refine wpAnyK_take (i := 3) (oi := ?_) (v := ?_) ?_ ?_ ?_ ?_ ?_ ?_ ?_ ?_ ?_; rotate_left 2; (focus (simp only [List.getElem?_toArray, List.getElem?_cons_zero, List.getElem?_cons_succ]; rfl)); (focus kernel_rfl); (focus kernel_rfl); (focus kernel_rfl); (focus kernel_rfl); (focus exact fun _ _ _ h => h); (focus (refine Or.inl ⟨by rfl, ?_⟩; intro W hW; (try dsimp only at hW); go_simp; try with_reducible rfl)); (focus exact HC); (try simp only [Act.put, List.setIfInBounds_toArray, List.set_cons_zero, List.set_cons_succ]))
      (refine wpAnyK_take (i := 4) (oi := ?_) (v := ?_) ?_ ?_ ?_ ?_ ?_ ?_ ?_ ?_ ?_; rotate_left 2; (focus (simp only [List.getElem?_toArray, List.getElem?_cons_zero, List.getElem?_cons_succ]; rfl)); (focus kernel_rfl); (focus kernel_rfl); (focus kernel_rfl); (focus kernel_rfl); (focus exact fun _ _ _ h => h); (focus (refine Or.inl ⟨by rfl, ?_⟩; intro W hW; (try dsimp only at hW); go_simp; try with_reducible rfl)); (focus exact HC); (try simp only [Act.put, List.setIfInBounds_toArray, List.set_cons_zero, List.set_cons_succ]))
      (refine wpAnyK_take (i := 5) (oi := ?_) (v := ?_) ?_ ?_ ?_ ?_ ?_ ?_ ?_ ?_ ?_; rotate_left 2; (focus (simp only [List.getElem?_toArray, List.getElem?_cons_zero, List.getElem?_cons_succ]; rfl)); (focus kernel_rfl); (focus kernel_rfl); (focus kernel_rfl); (focus kernel_rfl); (focus exact fun _ _ _ h => h); (focus (refine Or.inl ⟨by rfl, ?_⟩; intro W hW; (try dsimp only at hW); go_simp; try with_reducible rfl)); (focus exact HC); (try simp only [Act.put, List.setIfInBounds_toArray, List.set_cons_zero, List.set_cons_succ]))
      (refine wpAnyK_take (i := 6) (oi := ?_) (v := ?_) ?_ ?_ ?_ ?_ ?_ ?_ ?_ ?_ ?_; rotate_left 2; (focus (simp only [List.getElem?_toArray, List.getElem?_cons_zero, List.getElem?_cons_succ]; rfl)); (focus kernel_rfl); (focus kernel_rfl); (focus kernel_rfl); (focus kernel_rfl); (focus exact fun _ _ _ h => h); (focus (refine Or.inl ⟨by rfl, ?_⟩; intro W hW; (try dsimp only at hW); go_simp; try with_reducible rfl)); (focus exact HC); (try simp only [Act.put, List.setIfInBounds_toArray, List.set_cons_zero, List.set_cons_succ]))
      (refine wpAnyK_take (i := 7) (oi := ?_) (v := ?_) ?_ ?_ ?_ ?_ ?_ ?_ ?_ ?_ ?_; rotate_left 2; (focus (simp only [List.getElem?_toArray, List.getElem?_cons_zero, List.getElem?_cons_succ]; rfl)); (focus kernel_rfl); (focus kernel_rfl); (focus kernel_rfl); (focus kernel_rfl); (focus exact fun _ _ _ h => h); (focus (refine Or.inl ⟨by rfl, ?_⟩; intro W hW; (try dsimp only at hW); go_simp; try with_reducible rfl)); (focus exact HC); (try simp only [Act.put, List.setIfInBounds_toArray, List.set_cons_zero, List.set_cons_succ]))
      (refine wpAnyK_take (i := 8) (oi := ?_) (v := ?_) ?_ ?_ ?_ ?_ ?_ ?_ ?_ ?_ ?_; rotate_left 2; (focus (simp only [List.getElem?_toArray, List.getElem?_cons_zero, List.getElem?_cons_succ]; rfl)); (focus kernel_rfl); (focus kernel_rfl); (focus kernel_rfl); (focus kernel_rfl); (focus exact fun _ _ _ h => h); (focus (refine Or.inl ⟨by rfl, ?_⟩; intro W hW; (try dsimp only at hW); go_simp; try with_reducible rfl)); (focus exact HC); (try simp only [Act.put, List.setIfInBounds_toArray, List.set_cons_zero, List.set_cons_succ]))
      (refine wpAnyK_take (i := 9) (oi := ?_) (v := ?_) ?_ ?_ ?_ ?_ ?_ ?_ ?_ ?_ ?_; rotate_left 2; (focus (simp only [List.getElem?_toArray, List.getElem?_cons_zero, List.getElem?_cons_succ]; rfl)); (focus kernel_rfl); (focus kernel_rfl); (focus kernel_rfl); (focus kernel_rfl); (focus exact fun _ _ _ h => h); (focus (refine Or.inl ⟨by rfl, ?_⟩; intro W hW; (try dsimp only at hW); go_simp; try with_reducible rfl)); (focus exact HC); (try simp only [Act.put, List.setIfInBounds_toArray, List.set_cons_zero, List.set_cons_succ]))
      (refine wpAnyK_take (i := 10) (oi := ?_) (v := ?_) ?_ ?_ ?_ ?_ ?_ ?_ ?_ ?_ ?_; rotate_left 2; (focus (simp only [List.getElem?_toArray, List.getElem?_cons_zero, List.getElem?_cons_succ]; rfl)); (focus kernel_rfl); (focus kernel_rfl); (focus kernel_rfl); (focus kernel_rfl); (focus exact fun _ _ _ h => h); (focus (refine Or.inl ⟨by rfl, ?_⟩; intro W hW; (try dsimp only at hW); go_simp; try with_reducible rfl)); (focus exact HC); (try simp only [Act.put, List.setIfInBounds_toArray, List.set_cons_zero, List.set_cons_succ]))
      (refine wpAnyK_take (i := 11) (oi := ?_) (v := ?_) ?_ ?_ ?_ ?_ ?_ ?_ ?_ ?_ ?_; rotate_left 2; (focus (simp only [List.getElem?_toArray, List.getElem?_cons_zero, List.getElem?_cons_succ]; rfl)); (focus kernel_rfl); (focus kernel_rfl); (focus kernel_rfl); (focus kernel_rfl); (focus exact fun _ _ _ h => h); (focus (refine Or.inl ⟨by rfl, ?_⟩; intro W hW; (try dsimp only at hW); go_simp; try with_reducible rfl)); (focus exact HC); (try simp only [Act.put, List.setIfInBounds_toArray, List.set_cons_zero, List.set_cons_succ]))
      (refine wpAnyK_take (i := 12) (oi := ?_) (v := ?_) ?_ ?_ ?_ ?_ ?_ ?_ ?_ ?_ ?_; rotate_left 2; (focus (simp only [List.getElem?_toArray, List.getElem?_cons_zero, List.getElem?_cons_succ]; rfl)); (focus kernel_rfl); (focus kernel_rfl); (focus kernel_rfl); (focus kernel_rfl); (focus exact fun _ _ _ h => h); (focus (refine Or.inl ⟨by rfl, ?_⟩; intro W hW; (try dsimp only at hW); go_simp; try with_reducible rfl)); (focus exact HC); (try simp only [Act.put, List.setIfInBounds_toArray, List.set_cons_zero, List.set_cons_succ]))
      (refine wpAnyK_take (i := 13) (oi := ?_) (v := ?_) ?_ ?_ ?_ ?_ ?_ ?_ ?_ ?_ ?_; rotate_left 2; (focus (simp only [List.getElem?_toArray, List.getElem?_cons_zero, List.getElem?_cons_succ]; rfl)); (focus kernel_rfl); (focus kernel_rfl); (focus kernel_rfl); (focus kernel_rfl); (focus exact fun _ _ _ h => h); (focus (refine Or.inl ⟨by rfl, ?_⟩; intro W hW; (try dsimp only at hW); go_simp; try with_reducible rfl)); (focus exact HC); (try simp only [Act.put, List.setIfInBounds_toArray, List.set_cons_zero, List.set_cons_succ]))
      (refine wpAnyK_take (i := 14) (oi := ?_) (v := ?_) ?_ ?_ ?_ ?_ ?_ ?_ ?_ ?_ ?_; rotate_left 2; (focus (simp only [List.getElem?_toArray, List.getElem?_cons_zero, List.getElem?_cons_succ]; rfl)); (focus kernel_rfl); (focus kernel_rfl); (focus kernel_rfl); (focus kernel_rfl); (focus exact fun _ _ _ h => h); (focus (refine Or.inl ⟨by rfl, ?_⟩; intro W hW; (try dsimp only at hW); go_simp; try with_reducible rfl)); (focus exact HC); (try simp only [Act.put, List.setIfInBounds_toArray, List.set_cons_zero, List.set_cons_succ]))
      (refine wpAnyK_take (i := 16) (oi := ?_) (v := ?_) ?_ ?_ ?_ ?_ ?_ ?_ ?_ ?_ ?_; rotate_left 2; (focus (simp only [List.getElem?_toArray, List.getElem?_cons_zero, List.getElem?_cons_succ]; rfl)); (focus kernel_rfl); (focus kernel_rfl); (focus kernel_rfl); (focus kernel_rfl); (focus exact fun _ _ _ h => h); (focus (refine Or.inl ⟨by rfl, ?_⟩; intro W hW; (try dsimp only at hW); go_simp; try with_reducible rfl)); (focus exact HC); (try simp only [Act.put, List.setIfInBounds_toArray, List.set_cons_zero, List.set_cons_succ]))
      have m5 : (wr.drewN 1).heap[B5]? = _ := n5
      have m6 : (wr.drewN 1).heap[B6]? = _ := n6
      have HXW := Lib.hid (hxw.drewN 1)
      clear r0 r1 r2 r3 hcl hLf n5 n6 hxw hxr hNr hLr
      generalize wr.drewN 1 = wA at HC m5 m6 HXW hIt ⊢
      (refine wpAnyK_one (i := 15) (o := ?_) ?_ ?_ ?_ (fun K hK => ?_); rotate_left 1; (focus kernel_rfl); (focus (simp only [List.getElem?_toArray, List.getElem?_cons_zero, List.getElem?_cons_succ]; rfl)); (focus rfl))
      go_simp
      refine hIt.mono ?_
      rintro e w3 ⟨rfl, hw⟩
      have hw := hw.symm
      subst hw
      refine hK _ _ (fun _ => HC) ?_
      clear hK K hIt
      (try simp only [Act.put, List.setIfInBounds_toArray, List.set_cons_zero, List.set_cons_succ])
      (refine wpAnyK_take (i := 17) (oi := ?_) (v := ?_) ?_ ?_ ?_ ?_ ?_ ?_ ?_ ?_ ?_; rotate_left 2; (focus (simp only [List.getElem?_toArray, List.getElem?_cons_zero, List.getElem?_cons_succ]; rfl)); (focus kernel_rfl); (focus kernel_rfl); (focus kernel_rfl); (focus kernel_rfl); (focus exact fun _ _ _ h => h); (focus (refine Or.inl ⟨by rfl, ?_⟩; intro W hW; (try dsimp only at hW); go_simp; try with_reducible rfl)); (focus exact HC); (try simp only [Act.put, List.setIfInBounds_toArray, List.set_cons_zero, List.set_cons_succ]))
      (refine wpAnyK_take (i := 18) (oi := ?_) (v := ?_) ?_ ?_ ?_ ?_ ?_ ?_ ?_ ?_ ?_; rotate_left 2; (focus (simp only [List.getElem?_toArray, List.getElem?_cons_zero, List.getElem?_cons_succ]; rfl)); (focus kernel_rfl); (focus kernel_rfl); (focus kernel_rfl); (focus kernel_rfl); (focus exact fun _ _ _ h => h); (focus (refine Or.inl ⟨by rfl, ?_⟩; intro W hW; (try dsimp only at hW); go_simp; try with_reducible rfl)); (focus exact HC); (try simp only [Act.put, List.setIfInBounds_toArray, List.set_cons_zero, List.set_cons_succ]))
      have s0 := cellOf m5 0
      have s1 := cellOf m5 1
      simp only [List.getElem?_toArray, List.getElem?_cons_zero, List.getElem?_cons_succ] at s0 s1
      have f0 := frzOf m5 0
      have f1 := frzOf m5 1
      obtain ⟨k0, k1, k2, k3, k4⟩ := HC
      have cc : ∀ {b o : Nat} {u : Value}, b ≠ B5 → wA.cell? ⟨b, o, none⟩ = some u → ((wA.setCell ⟨B5, 0, none⟩ (.int .i64 r.x0)).setCell ⟨B5, 1, none⟩ (.int .i64 r.y0)).cell? ⟨b, o, none⟩ = some u := fun {b o u} hb h => by
        unfold World.cell? at h ⊢
        dsimp only at h ⊢
        rw [setCell_ne 1 hb, setCell_ne 0 hb]; exact h
      have HC2 := And.intro (cc hpB5 k0) (And.intro (cc hpB5 k1) (And.intro (cc hpB5 k2) (And.intro (cc hpB5 k3) (cc hqB5 k4))))
      have z5 := setCell_obj (setCell_obj m5 0 (.int .i64 r.x0)) 1 (.int .i64 r.y0)
      have z6 : ((wA.setCell ⟨B5, 0, none⟩ (.int .i64 r.x0)).setCell ⟨B5, 1, none⟩ (.int .i64 r.y0)).heap[B6]? = _ := ((setCell_ne 1 (Ne.symm hbb) _ none).trans (setCell_ne 0 (Ne.symm hbb) _ none)).trans m6
      have HX2 := Lib.hid ((HXW.out.setCell (p := ⟨B5, 0, none⟩) (by dsimp only; omega) (.int .i64 r.x0)).setCell (p := ⟨B5, 1, none⟩) (by dsimp only; omega) (.int .i64 r.y0))
      simp only [List.setIfInBounds_toArray, List.set_cons_zero, List.set_cons_succ] at z5
      clear k0 k1 k2 k3 k4 cc
      (refine wpAnyK_one (i := 19) (o := ?_) ?_ ?_ ?_ (fun K hK => ?_); rotate_left 1; (focus kernel_rfl); (focus (simp only [List.getElem?_toArray, List.getElem?_cons_zero, List.getElem?_cons_succ]; rfl)); (focus rfl))
      go_simp
      generalize ((wA.setCell ⟨B5, 0, none⟩ (.int .i64 r.x0)).setCell ⟨B5, 1, none⟩ (.int .i64 r.y0)) = wB at HC2 z5 z6 HX2 hK ⊢
      refine hK _ _ (fun _ => HC2) ?_
      clear hK K s0 s1 f0 f1 m5 m6
      have s0 := cellOf z6 0
      have s1 := cellOf z6 1
      simp only [List.getElem?_toArray, List.getElem?_cons_zero, List.getElem?_cons_succ] at s0 s1
      have f0 := frzOf z6 0
      have f1 := frzOf z6 1
      obtain ⟨k0, k1, k2, k3, k4⟩ := HC2
      have cc : ∀ {b o : Nat} {u : Value}, b ≠ B6 → wB.cell? ⟨b, o, none⟩ = some u → ((wB.setCell ⟨B6, 0, none⟩ (.int .i64 r.x1)).setCell ⟨B6, 1, none⟩ (.int .i64 r.y1)).cell? ⟨b, o, none⟩ = some u := fun {b o u} hb h => by
        unfold World.cell? at h ⊢
        dsimp only at h ⊢
        rw [setCell_ne 1 hb, setCell_ne 0 hb]; exact h
      have HC3 := And.intro (cc hpB6 k0) (And.intro (cc hpB6 k1) (And.intro (cc hpB6 k2) (And.intro (cc hpB6 k3) (cc hqB6 k4))))
      have y6 := setCell_obj (setCell_obj z6 0 (.int .i64 r.x1)) 1 (.int .i64 r.y1)
      have y5 : ((wB.setCell ⟨B6, 0, none⟩ (.int .i64 r.x1)).setCell ⟨B6, 1, none⟩ (.int .i64 r.y1)).heap[B5]? = _ := ((setCell_ne 1 hbb _ none).trans (setCell_ne 0 hbb _ none)).trans z5
      have HX3 := Lib.hid ((HX2.out.setCell (p := ⟨B6, 0, none⟩) (by dsimp only; omega) (.int .i64 r.x1)).setCell (p := ⟨B6, 1, none⟩) (by dsimp only; omega) (.int .i64 r.y1))
      simp only [List.setIfInBounds_toArray, List.set_cons_zero, List.set_cons_succ] at y6
      clear k0 k1 k2 k3 k4 cc
      (refine wpAnyK_one (i := 20) (o := ?_) ?_ ?_ ?_ (fun K hK => ?_); rotate_left 1; (focus kernel_rfl); (focus (simp only [List.getElem?_toArray, List.getElem?_cons_zero, List.getElem?_cons_succ]; rfl)); (focus rfl))
      go_simp
      generalize ((wB.setCell ⟨B6, 0, none⟩ (.int .i64 r.x1)).setCell ⟨B6, 1, none⟩ (.int .i64 r.y1)) = wC at HC3 y5 y6 HX3 hK ⊢
      refine hK _ _ (fun _ => HC3) ?_
      clear hK K s0 s1 f0 f1 z5 z6
      (refine wpAnyK_one (i := 21) (o := ?_) ?_ ?_ ?_ (fun K hK => ?_); rotate_left 1; (focus kernel_rfl); (focus (simp only [List.getElem?_toArray, List.getElem?_cons_zero, List.getElem?_cons_succ]; rfl)); (focus rfl))
      go_simp
      refine hK _ _ (fun _ => HC3) ?_
      clear hK K HC3
      refine wpAnyK_done (by kernel_rfl) ?_ _
      have a0 := cellOf y5 0
      have a1 := cellOf y5 1
      have a2 := cellOf y6 0
      have a3 := cellOf y6 1
      simp only [List.getElem?_toArray, List.getElem?_cons_zero, List.getElem?_cons_succ] at a0 a1 a2 a3
      clear y5 y6
      go_wp2_with fail
      refine bodyPost_ret (v := .tuple #[.agg #[.int .i64 r.x0, .int .i64 r.y0], .agg #[.int .i64 r.x1, .int .i64 r.y1], .int .i64 y]) (by simp [results, Try.results69, go_sem, a0, a1, a2, a3]) rfl (by first | exact ⟨r, y, HEX.out, rfl, HX3.out⟩ | exact ⟨(r, y), HEX.out, rfl, HX3.out⟩)
    have hNr := HNN.out.ex (HXA.out.trans hxr)
    have r0 : wr.cell? ⟨p, 3 + jj * 4, none⟩ = some (.int .i64 (X jj).1.x0) := cell_rcell hNr (i := jj) (j := 0) (by omega) (by omega)
    have r1 : wr.cell? ⟨p, 3 + jj * 4 + 1, none⟩ = some (.int .i64 (X jj).1.y0) := cell_rcell hNr (i := jj) (j := 1) (by omega) (by omega)
    have r2 : wr.cell? ⟨p, 3 + jj * 4 + 2, none⟩ = some (.int .i64 (X jj).1.x1) := cell_rcell hNr (i := jj) (j := 2) (by omega) (by omega)
    have r3 : wr.cell? ⟨p, 3 + jj * 4 + 3, none⟩ = some (.int .i64 (X jj).1.y1) := cell_rcell hNr (i := jj) (j := 3) (by omega) (by omega)
    have hxb := hxr.alloc (.cells (boxV (X jj).1).toArray 91)
    have nb := heap_alloc_new wr (.cells (boxV (X jj).1).toArray 91)
    clear hNr hxr
    go_upto_region 6 with (fail)
    change Code.wp _ _ _ _ (wr.alloc (.cells (boxV (X jj).1).toArray 91))
    generalize hBb : wr.heap.size = Bb at nb ⊢
    generalize (wr.alloc (.cells (boxV (X jj).1).toArray 91)) = w3 at hxb nb ⊢
    have q0 := cellOf nb 0
    have q1 := cellOf nb 1
    have q2 := cellOf nb 2
    have q3 := cellOf nb 3
    simp only [boxV, List.getElem?_toArray, List.getElem?_cons_zero, List.getElem?_cons_succ] at q0 q1 q2 q3
    have hbl := (Array.getElem?_eq_some_iff.1 nb).1
    have HXB := Lib.hid hxb
    clear r0 r1 r2 r3 hxb nb
    rcases hcase with ⟨h0, rfl, rfl⟩ | ⟨jm, hjm, rfl, rfl, HMN⟩
    · have hmn : Hid (∀ i, i < jj + 1 → (X i).1.y1 ≤ (X jj).1.y1) := Lib.hid fun i hi => by
        have : i = jj := by omega
        subst this; exact Int.le_refl _
      have e0 : ((jj : Int) == 0) = true := by simp [h0]
      have H0 := Lib.hid h0
      clear h0
      go_upto_region 7 with (fail)
      (refine Mix.wp_region_dr (by kernel_rfl) (by kernel_rfl) ?_; (repeat (go_big_quiet_step (fail))); refine wpQuiet_nil ?_; intro nq)
      clear q0 q1 q2 q3
      go_wp2_with fail
      go_roundw
      case measure => simp [intOf]; omega
      case rel => exact ⟨jj + 1, by omega, by go_num, .inr ⟨jj, by omega, rfl, rfl, hmn⟩, HXB.out.drewN _⟩
    · have e0 : ((jj : Int) == 0) = false := by simp; omega
      by_cases hc : (X jm).1.y1 < (X jj).1.y1
      · have hd : decide ((X jm).1.y1 < (X jj).1.y1) = true := decide_eq_true hc
        have hmn : Hid (∀ i, i < jj + 1 → (X i).1.y1 ≤ (X jj).1.y1) := Lib.hid fun i hi => by
          by_cases hij : i = jj
          · subst hij; exact Int.le_refl _
          · have := HMN.out i (by omega); omega
        have H0 := Lib.hid hc
        clear hc
        go_upto_region 7 with (fail)
        (refine Mix.wp_region_dr (by kernel_rfl) (by kernel_rfl) ?_; (repeat (go_big_quiet_step (fail))); refine wpQuiet_nil ?_; intro nq)
        clear q0 q1 q2 q3
        go_wp2_with fail
        go_roundw
        case measure => simp [intOf]; omega
        case rel => exact ⟨jj + 1, by omega, by go_num, .inr ⟨jj, by omega, rfl, rfl, hmn⟩, HXB.out.drewN _⟩
      · have hd : decide ((X jm).1.y1 < (X jj).1.y1) = false := decide_eq_false hc
        have hmn : Hid (∀ i, i < jj + 1 → (X i).1.y1 ≤ (X jm).1.y1) := Lib.hid fun i hi => by
          by_cases hij : i = jj
          · subst hij; omega
          · exact HMN.out i (by omega)
        have H0 := Lib.hid hc
        clear hc
        go_wp2_with fail
        go_roundw
        case measure => simp [intOf]; omega
        case rel => exact ⟨jj + 1, by omega, by go_num, .inr ⟨jm, by omega, rfl, rfl, hmn⟩, HXB.out⟩
set_option maxRecDepth 100000 in
set_option maxHeartbeats 1600000 in
theorem endBraT (c : Int) (Z : Nat → Prop) (w0 : World) (h : Nat) (IH : EndCT c Z w0 h) : EndCT c Z w0 (h + 1) := by
  rintro v ⟨n, E⟩ s ⟨p, q, ic, X, rfl, ⟨hN, hL, -, hpq, hn⟩, hE, he, -⟩ hn1 hW w hx
  dsimp only at hN hL hE he hn hn1
  subst hE
  dsimp only [leafB] at hN hL
  have HW := Lib.hid hW
  have HE := Lib.hid he
  have HNN := Lib.hid (hN.ex hx)
  have HLL := Lib.hid ((Chg.ex (S := fun _ => False) hx).list hL (fun h => h))
  clear he hW hN hL
  have n0 : (0 : Int) ≤ (n : Int) := by omega
  have n1 : (n : Int) ≤ 64 := by omega
  go_enter Try.func69, Try.ntmps69
  go_upto_region 3 with (fail)
  have hxa := ((Mix.Ex.refl w).alloc (.cells #[.int .i64 0, .int .i64 0] 28)).alloc (.cells #[.int .i64 0, .int .i64 0] 28)
  have n5 := ((Mix.Ex.refl (w.alloc (.cells #[.int .i64 0, .int .i64 0] 28))).alloc (.cells #[.int .i64 0, .int .i64 0] 28)).obj (heap_alloc_new w (.cells #[.int .i64 0, .int .i64 0] 28))
  have n6 := heap_alloc_new (w.alloc (.cells #[.int .i64 0, .int .i64 0] 28)) (.cells #[.int .i64 0, .int .i64 0] 28)
  rw [World.size_alloc] at n6
  change Code.wp _ _ _ _ ((w.alloc (.cells #[.int .i64 0, .int .i64 0] 28)).alloc (.cells #[.int .i64 0, .int .i64 0] 28))
  generalize ((w.alloc (.cells #[.int .i64 0, .int .i64 0] 28)).alloc (.cells #[.int .i64 0, .int .i64 0] 28)) = w1 at hxa n5 n6 ⊢
  obtain ⟨B5, hB5⟩ : ∃ B5, w.heap.size = B5 := ⟨_, rfl⟩
  obtain ⟨B6, hB6⟩ : ∃ B6, w.heap.size + 1 = B6 := ⟨_, rfl⟩
  rw [hB6] at n6 ⊢
  rw [hB5] at n5 ⊢
  have c2 : w1.cell? ⟨p, 2, none⟩ = some (.int .i16 n) := (HNN.out.ex hxa).cell2
  have HXA := Lib.hid hxa
  have N5 := Lib.hid n5
  have N6 := Lib.hid n6
  clear hxa n5 n6
  (refine Mix.wp_region_dr (by kernel_rfl) (by kernel_rfl) ?_; (repeat (go_big_quiet_step (fail))); refine wpQuiet_nil ?_; intro nq)
  clear c2
  go_wp2_with fail
  go_loopw [7, 8, 20] (fun a b i wr => ∃ jj : Nat, jj ≤ n ∧ i = .int .i64 jj ∧ ((jj = 0 ∧ a = .int .i64 0 ∧ b = .int .i64 0) ∨ ∃ jm : Nat, jm < jj ∧ a = .int .i64 jm ∧ b = .int .i64 (X jm).1.y1 ∧ Hid (∀ i, i < jj → (X i).1.y1 ≤ (X jm).1.y1)) ∧ Mix.Ex w1 wr) (fun _ _ i _ => n - (intOf i).toNat)
  case atStart => exact ⟨0, by omega, rfl, .inl ⟨rfl, rfl, rfl⟩, (Mix.Ex.refl _).drewN _⟩
  case round =>
    obtain ⟨jj, hj, rfl, hcase, hxr⟩ := hrel
    by_cases hlt : jj < n
    case neg =>
      have hjn : jj = n := by omega
      subst hjn
      rcases hcase with ⟨h0, -⟩ | ⟨jm, hjm, rfl, rfl, HMN⟩
      · omega
      have hxw := HXA.out.trans hxr
      have hNr := HNN.out.ex hxw
      have hLr : ListAt wr q (elT false) (fE (mp An.v X)) := (Chg.ex (S := fun _ => False) hxw).list HLL.out (fun h => h)
      have hwj := fun i hi => Wf_succ.1 (HW.out.2 (mp An.t X i) (mem_lst.2 ⟨i, hi, rfl⟩))
      have hcl : wr.cell? ⟨q, jm, none⟩ = some ((X jm).2.v) := hLr.cell (i := jm) (by omega)
      have hLf := leaf_c wr p _ hNr
      have hCh := children_c wr p _ hNr rfl
      dsimp only at hLf hCh
      have hI := IH _ _ _ (HE.out (X jm) (mem_lst.2 ⟨jm, hjm, rfl⟩)) (hwj jm hjm).1 (hwj jm hjm).2.2 wr (hx.trans hxw)
      have HEX : Hid (∀ x, ExT (itsN h (X jm).2.t) x → ExT (itsN (h + 1) ⟨jj, mp An.t X⟩) x) := Lib.hid fun x hx =>
        pickT (j := jm) (fun i hi => (HW.out.2 (mp An.t X i) (mem_lst.2 ⟨i, hi, rfl⟩)).bd) hjm (fun i hi => HMN.out i hi) hx
      have HN5 := Lib.hid (hxr.obj N5.out)
      have HN6 := Lib.hid (hxr.obj N6.out)
      have HXW := Lib.hid hxw
      have hbb : B5 ≠ B6 := by omega
      clear hNr hLr hwj hxw hxr
      generalize (X jm).2.v = y at hcl hI
      go_wp2_with fail
      refine hLf.mono ?_
      rintro e w2 ⟨rfl, hw⟩
      have hw := hw.symm
      subst hw
      go_wp2_with fail
      refine hCh.mono ?_
      rintro e w2 ⟨rfl, hw⟩
      have hw := hw.symm
      subst hw
      clear hLf hCh
      have hjm64 : (jm : Int) < 64 := by omega
      go_wp2_with fail
      refine hI.mono ?_
      rintro e wA ⟨x, hxm, rfl, hxA⟩
      have m5 := hxA.obj HN5.out
      have m6 := hxA.obj HN6.out
      have hXA := HXW.out.trans hxA
      have s0 := cellOf m5 0
      have s1 := cellOf m5 1
      have s2 := cellOf m6 0
      have s3 := cellOf m6 1
      simp only [List.getElem?_toArray, List.getElem?_cons_zero, List.getElem?_cons_succ] at s0 s1 s2 s3
      have f0 := frzOf m5 0
      have f1 := frzOf m5 1
      have f2 := frzOf m6 0
      have f3 := frzOf m6 1
      have z5 := setCell_obj (setCell_obj m5 0 (.int .i64 x.1.x0)) 1 (.int .i64 x.1.y0)
      have z6 : ((wA.setCell ⟨B5, 0, none⟩ (.int .i64 x.1.x0)).setCell ⟨B5, 1, none⟩ (.int .i64 x.1.y0)).heap[B6]? = _ := ((setCell_ne 1 (Ne.symm hbb) _ none).trans (setCell_ne 0 (Ne.symm hbb) _ none)).trans m6
      have y6 := setCell_obj (setCell_obj z6 0 (.int .i64 x.1.x1)) 1 (.int .i64 x.1.y1)
      have y5 : ((((wA.setCell ⟨B5, 0, none⟩ (.int .i64 x.1.x0)).setCell ⟨B5, 1, none⟩ (.int .i64 x.1.y0)).setCell ⟨B6, 0, none⟩ (.int .i64 x.1.x1)).setCell ⟨B6, 1, none⟩ (.int .i64 x.1.y1)).heap[B5]? = _ := ((setCell_ne 1 hbb _ none).trans (setCell_ne 0 hbb _ none)).trans z5
      simp only [List.setIfInBounds_toArray, List.set_cons_zero, List.set_cons_succ] at y6 y5
      have hX3 := (((hXA.setCell (p := ⟨B5, 0, none⟩) (by dsimp only; omega) (.int .i64 x.1.x0)).setCell (p := ⟨B5, 1, none⟩) (by dsimp only; omega) (.int .i64 x.1.y0)).setCell (p := ⟨B6, 0, none⟩) (by dsimp only; omega) (.int .i64 x.1.x1)).setCell (p := ⟨B6, 1, none⟩) (by dsimp only; omega) (.int .i64 x.1.y1)
      have Y5 := Lib.hid y5
      have Y6 := Lib.hid y6
      have HX3 := Lib.hid hX3
      clear z5 z6 y5 y6 hX3 m5 m6 hxA hXA
      go_wp2_with fail
      have a0 := cellOf Y5.out 0
      have a1 := cellOf Y5.out 1
      have a2 := cellOf Y6.out 0
      have a3 := cellOf Y6.out 1
      simp only [List.getElem?_toArray, List.getElem?_cons_zero, List.getElem?_cons_succ] at a0 a1 a2 a3
      refine bodyPost_ret (v := .tuple #[.agg #[.int .i64 x.1.x0, .int .i64 x.1.y0], .agg #[.int .i64 x.1.x1, .int .i64 x.1.y1], .int .i64 x.2]) (by simp [results, Try.results69, go_sem, a0, a1, a2, a3]) rfl (by first | exact ⟨x, HEX.out x hxm, rfl, HX3.out⟩ | exact ⟨x.1, x.2, HEX.out x hxm, rfl, HX3.out⟩)
    have hNr := HNN.out.ex (HXA.out.trans hxr)
    have r0 : wr.cell? ⟨p, 3 + jj * 4, none⟩ = some (.int .i64 (X jj).1.x0) := cell_rcell hNr (i := jj) (j := 0) (by omega) (by omega)
    have r1 : wr.cell? ⟨p, 3 + jj * 4 + 1, none⟩ = some (.int .i64 (X jj).1.y0) := cell_rcell hNr (i := jj) (j := 1) (by omega) (by omega)
    have r2 : wr.cell? ⟨p, 3 + jj * 4 + 2, none⟩ = some (.int .i64 (X jj).1.x1) := cell_rcell hNr (i := jj) (j := 2) (by omega) (by omega)
    have r3 : wr.cell? ⟨p, 3 + jj * 4 + 3, none⟩ = some (.int .i64 (X jj).1.y1) := cell_rcell hNr (i := jj) (j := 3) (by omega) (by omega)
    have hxb := hxr.alloc (.cells (boxV (X jj).1).toArray 91)
    have nb := heap_alloc_new wr (.cells (boxV (X jj).1).toArray 91)
    clear hNr hxr
    go_upto_region 6 with (fail)
    change Code.wp _ _ _ _ (wr.alloc (.cells (boxV (X jj).1).toArray 91))
    generalize hBb : wr.heap.size = Bb at nb ⊢
    generalize (wr.alloc (.cells (boxV (X jj).1).toArray 91)) = w3 at hxb nb ⊢
    have q0 := cellOf nb 0
    have q1 := cellOf nb 1
    have q2 := cellOf nb 2
    have q3 := cellOf nb 3
    simp only [boxV, List.getElem?_toArray, List.getElem?_cons_zero, List.getElem?_cons_succ] at q0 q1 q2 q3
    have hbl := (Array.getElem?_eq_some_iff.1 nb).1
    have HXB := Lib.hid hxb
    clear r0 r1 r2 r3 hxb nb
    rcases hcase with ⟨h0, rfl, rfl⟩ | ⟨jm, hjm, rfl, rfl, HMN⟩
    · have hmn : Hid (∀ i, i < jj + 1 → (X i).1.y1 ≤ (X jj).1.y1) := Lib.hid fun i hi => by
        have : i = jj := by omega
        subst this; exact Int.le_refl _
      have e0 : ((jj : Int) == 0) = true := by simp [h0]
      have H0 := Lib.hid h0
      clear h0
      go_upto_region 7 with (fail)
      (refine Mix.wp_region_dr (by kernel_rfl) (by kernel_rfl) ?_; (repeat (go_big_quiet_step (fail))); refine wpQuiet_nil ?_; intro nq)
      clear q0 q1 q2 q3
      go_wp2_with fail
      go_roundw
      case measure => simp [intOf]; omega
      case rel => exact ⟨jj + 1, by omega, by go_num, .inr ⟨jj, by omega, rfl, rfl, hmn⟩, HXB.out.drewN _⟩
    · have e0 : ((jj : Int) == 0) = false := by simp; omega
      by_cases hc : (X jm).1.y1 < (X jj).1.y1
      · have hd : decide ((X jm).1.y1 < (X jj).1.y1) = true := decide_eq_true hc
        have hmn : Hid (∀ i, i < jj + 1 → (X i).1.y1 ≤ (X jj).1.y1) := Lib.hid fun i hi => by
          by_cases hij : i = jj
          · subst hij; exact Int.le_refl _
          · have := HMN.out i (by omega); omega
        have H0 := Lib.hid hc
        clear hc
        go_upto_region 7 with (fail)
        (refine Mix.wp_region_dr (by kernel_rfl) (by kernel_rfl) ?_; (repeat (go_big_quiet_step (fail))); refine wpQuiet_nil ?_; intro nq)
        clear q0 q1 q2 q3
        go_wp2_with fail
        go_roundw
        case measure => simp [intOf]; omega
        case rel => exact ⟨jj + 1, by omega, by go_num, .inr ⟨jj, by omega, rfl, rfl, hmn⟩, HXB.out.drewN _⟩
      · have hd : decide ((X jm).1.y1 < (X jj).1.y1) = false := decide_eq_false hc
        have hmn : Hid (∀ i, i < jj + 1 → (X i).1.y1 ≤ (X jm).1.y1) := Lib.hid fun i hi => by
          by_cases hij : i = jj
          · subst hij; omega
          · exact HMN.out i (by omega)
        have H0 := Lib.hid hc
        clear hc
        go_wp2_with fail
        go_roundw
        case measure => simp [intOf]; omega
        case rel => exact ⟨jj + 1, by omega, by go_num, .inr ⟨jm, by omega, rfl, rfl, hmn⟩, HXB.out⟩
theorem endAllT (c : Int) (Z : Nat → Prop) (w0 : World) : ∀ h, EndCT c Z w0 h
  | 0 => endLeafT c Z w0
  | h + 1 => endBraT c Z w0 h (endAllT c Z w0 h)
end Go.Proofs.Ytboeldlilkeihaa
