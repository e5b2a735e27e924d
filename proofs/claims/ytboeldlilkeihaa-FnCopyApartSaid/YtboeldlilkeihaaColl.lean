/- What Scan and Search lay: boxes and numbers in two captured variables; the closures that lay them. -/
import Derived.Test.YtboeldlilkeihaaRefB
import Derived.Test.YtboeldlilkeihaaRgC
set_option linter.unusedSimpArgs false
set_option linter.unusedVariables false
namespace Go
open Go.RowKit
theorem wp_append_row {P : Program} {α : Type} {w : World} {o : Oper} {a : Act} {K : Act → World → Prop} {Q : Exit → Act → World → Prop} (s x : Operand) (t : TypeId)
    (ho : o.op = .call { callee := .builtin .append, args := #[s, x], argTypes := #[t, t] })
    (base : Nat) (e : TypeId) (i : TypeInfo) (z : Value) (size bytes : Nat) (ht : P.underlying t = some (.slice e)) (hi : P.info? e = some i) (hz : i.zero = some z)
    (hsize : i.size = size) (hby : i.bytes = bytes) (hzs : z.cells.size = size) (hsz : 0 < size)
    (f : α → List Value) (v : Value) (L : List α) (y : α) (hs : a.eval s = v) (hown : w.Row base e size f v L)
    (ad : Addr) (c : Nat) (hx : a.eval x = .slice (some ad) 1 c) (hnews : ∀ j u, (f y)[j]? = some u → w.cell? (ad.add j) = some u) (h1 : ∀ u ∈ f y, u.oneCell' = true)
    (h63 : L.length + 1 ≤ maxLen) (hbytes : (L.length + 1) * bytes ≤ 140737488355328) (hbase : base ≤ w.heap.size)
    (h : ∀ g cap w', w'.Row base e size f (.slice (some ⟨g, 0, none⟩) (L.length + 1) cap) (L ++ [y]) → w.grownBy w' v.ownBlock → (v.ownBlock = some g ∨ g = w.heap.size) → g < w'.heap.size →
      K (a.put o.dst (.slice (some ⟨g, 0, none⟩) (L.length + 1) cap)) w') :
    Oper.wp P o a w K Q := by
  obtain ⟨g, cap, w', hr, h2, h3, h4, h5⟩ := run_append_lies (P := P) w t o.type base e i z size bytes ht hi hz hsize hby hzs hsz v L.length (L.flatMap f) hown.own ad 1 c (f y) (by rw [hown.len]; omega) hnews h1 (by omega) h63 hbytes hbase _ rfl
  unfold Oper.wp execOp
  simp only [ho, resolve, invoke, builtin, Sem.run_bind, Sem.run_pure, Result.andThen_ok, List.map_toArray, List.map_cons, List.map_nil, hs, hx, hr]
  exact h g cap w' ⟨hown.len, by rw [List.length_append, List.length_singleton, List.flatMap_append, List.flatMap_singleton]; exact h2⟩ h3 h4 h5
/-- Lists of two types lie in two blocks. -/
theorem World.Row.apart {α β : Type} {w : World} {b b' s s' : Nat} {e e' : TypeId} {f : α → List Value} {f' : β → List Value} {v v' : Value} {L : List α} {L' : List β} (h : w.Row b e s f v L) (h' : w.Row b' e' s' f' v' L') (he : e ≠ e') :
    ∀ k, v.ownBlock = some k → v'.ownBlock ≠ some k := by
  intro k hk hk'
  rcases h.own.2 with ⟨rfl, _⟩ | ⟨g, cap, cur, rfl, _, h2, _⟩
  · cases hk
  rcases h'.own.2 with ⟨rfl, _⟩ | ⟨g', cap', cur', rfl, _, h2', _⟩
  · cases hk'
  simp only [Value.ownBlock, Option.some.injEq] at hk hk'
  subst hk
  subst hk'
  rw [h2] at h2'
  simp only [Option.some.injEq, Obj.cells.injEq] at h2'
  exact he h2'.2.1
theorem grown_keep {w w' : World} {row : Option Nat} {G : Nat} {o : Obj} (hg : w.grownBy w' row) (h : w.heap[G]? = some o) (hr : row ≠ some G) : w'.heap[G]? = some o :=
  (hg.block G (Array.getElem?_eq_some_iff.1 h).1 (Ne.symm hr)).trans h
end Go
namespace Go.Proofs.Ytboeldlilkeihaa
open Go.RowKit Go.Bx
/-- An item's box, an item's number, in memory. -/
def bI (x : R × Int) : List Value := [.int .i64 x.1.x0, .int .i64 x.1.y0, .int .i64 x.1.x1, .int .i64 x.1.y1]
theorem bI_len (x : R × Int) : (bI x).length = 4 := rfl
theorem bI_one (x : R × Int) : ∀ u ∈ bI x, u.oneCell' = true := by
  intro u hu
  simp [bI] at hu
  rcases hu with rfl | rfl | rfl | rfl <;> rfl
def dI (x : R × Int) : List Value := [.int .i64 x.2]
theorem dI_len (x : R × Int) : (dI x).length = 1 := rfl
theorem dI_one (x : R × Int) : ∀ u ∈ dI x, u.oneCell' = true := by
  intro u hu
  simp [dI] at hu
  subst hu; rfl
theorem info_rbox : (Try.prog.info? 71).map (fun i => (i.zero, i.size, i.bytes)) = some (some (.agg #[.int .i64 0, .int .i64 0, .int .i64 0, .int .i64 0]), 4, 32) := by kernel_rfl
theorem info_int : (Try.prog.info? 3).map (fun i => (i.zero, i.size, i.bytes)) = some (some (.int .i64 0), 1, 8) := by kernel_rfl
theorem news_of_cells {w : World} {G : Nat} {vs : List Value} {T : TypeId} (h : w.heap[G]? = some (.cells vs.toArray T (0, 0))) : ∀ j u, vs[j]? = some u → w.cell? ((⟨G, 0, none⟩ : Addr).add j) = some u := by
  intro j u hj
  have e : ((⟨G, 0, none⟩ : Addr).add j) = ⟨G, j, none⟩ := by cases j <;> simp [Addr.add]
  rw [e, cellOf h]
  simpa using hj
/-- Two variables hold the boxes and the numbers of a list of items. -/
structure Coll (w : World) (base pb pd : Nat) (L : List (R × Int)) : Prop where
  ne : pb ≠ pd
  lb : pb < base
  ld : pd < base
  bs : base ≤ w.heap.size
  vs : ∃ vb vd, w.heap[pb]? = some (.cells #[vb] 68 (0, 0)) ∧ w.heap[pd]? = some (.cells #[vd] 43 (0, 0)) ∧
    w.Row base 71 4 bI vb L ∧ w.Row base 3 1 dI vd L
theorem Coll.ex {w w' : World} {base pb pd : Nat} {L : List (R × Int)} (h : Coll w base pb pd L) (hx : Mix.Ex w w') : Coll w' base pb pd L := by
  obtain ⟨h1, h2, h3, h4, vb, vd, h5, h6, h7, h8⟩ := h
  exact ⟨h1, h2, h3, Nat.le_trans h4 hx.below.size, vb, vd, hx.obj h5, hx.obj h6, h7.ex hx, h8.ex hx⟩
/-- A block that the two lists do not lie in. -/
structure Frn (w : World) (pb pd b : Nat) : Prop where
  nb : b ≠ pb
  nd : b ≠ pd
  lt : b < w.heap.size
  vb : ∀ v, w.heap[pb]? = some (.cells #[v] 68 (0, 0)) → v.ownBlock ≠ some b
  vd : ∀ v, w.heap[pd]? = some (.cells #[v] 43 (0, 0)) → v.ownBlock ≠ some b
/-- What lies in no block of these is as it was. -/
def Kp (w w' : World) (pb pd : Nat) : Prop := ∀ b, Frn w pb pd b → w'.heap[b]? = w.heap[b]? ∧ Frn w' pb pd b
theorem Kp.trans {a b c : World} {pb pd : Nat} (h : Kp a b pb pd) (k : Kp b c pb pd) : Kp a c pb pd := fun i hi => by
  obtain ⟨h1, h2⟩ := h i hi
  obtain ⟨k1, k2⟩ := k i h2
  exact ⟨k1.trans h1, k2⟩
theorem Kp.ex {w w' : World} {base pb pd : Nat} {L : List (R × Int)} (hC : Coll w base pb pd L) (hx : Mix.Ex w w') : Kp w w' pb pd := fun b hb => by
  have hp : pb < w.heap.size := Nat.lt_of_lt_of_le hC.lb hC.bs
  have hd : pd < w.heap.size := Nat.lt_of_lt_of_le hC.ld hC.bs
  have e1 := hx.below.block pb hp
  have e2 := hx.below.block pd hd
  exact ⟨hx.below.block b hb.lt, hb.nb, hb.nd, Nat.lt_of_lt_of_le hb.lt hx.below.size, fun v hv => hb.vb v (by rw [← e1]; exact hv), fun v hv => hb.vd v (by rw [← e2]; exact hv)⟩
/-- A new block is none of them. -/
theorem Frn.new {w w' : World} {base pb pd : Nat} {L : List (R × Int)} (hC : Coll w base pb pd L) (hx : Mix.Ex w w') {b : Nat} (hb : w.heap.size ≤ b) (hl : b < w'.heap.size) : Frn w' pb pd b := by
  have hp : pb < w.heap.size := Nat.lt_of_lt_of_le hC.lb hC.bs
  have hd : pd < w.heap.size := Nat.lt_of_lt_of_le hC.ld hC.bs
  have e1 := hx.below.block pb hp
  have e2 := hx.below.block pd hd
  obtain ⟨_, _, _, _, vb, vd, h1, h2, h3, h4⟩ := hC
  refine ⟨by omega, by omega, hl, fun v hv => ?_, fun v hv => ?_⟩
  · rw [e1, h1] at hv
    simp only [Option.some.injEq, Obj.cells.injEq, Array.mk.injEq, List.cons.injEq, and_true] at hv
    rw [← hv]
    exact fun e => by have := (h3.lt _ e).2; omega
  · rw [e2, h2] at hv
    simp only [Option.some.injEq, Obj.cells.injEq, Array.mk.injEq, List.cons.injEq, and_true] at hv
    rw [← hv]
    exact fun e => by have := (h4.lt _ e).2; omega
set_option maxRecDepth 100000 in
set_option maxHeartbeats 1600000 in
theorem scanClo_c (w0 w : World) (base pb pd : Nat) (L : List (R × Int)) (x : R × Int) (hC : Coll w base pb pd L) (hl : L.length ≤ 900000) (hx0 : Mix.Ex w0 w) (h0 : w0.heap.size ≤ pb) (h1 : w0.heap.size ≤ pd) :
    Calls Try.prog 56 #[.agg #[.int .i64 x.1.x0, .int .i64 x.1.y0], .agg #[.int .i64 x.1.x1, .int .i64 x.1.y1], .int .i64 x.2, .pointer (some ⟨pb, 0, none⟩), .pointer (some ⟨pd, 0, none⟩)] w fun e w' =>
      e = .returned (.bool true) ∧ Coll w' base pb pd (L ++ [x]) ∧ Mix.Ex w0 w' ∧ Kp w w' pb pd := by
  obtain ⟨i0, hi0, hz0, hz1, hz2⟩ := info_parts info_rbox
  obtain ⟨j0, hj0, hy0, hy1, hy2⟩ := info_parts info_int
  obtain ⟨hne, lb, ld, hbs, vb, vd, hvb, hvd, hrb, hrd⟩ := hC
  have hnn := hrb.apart hrd (by decide)
  have HNN := Lib.hid hnn
  have HVB := Lib.hid hvb
  have HVD := Lib.hid hvd
  have HRB := Lib.hid hrb
  have HRD := Lib.hid hrd
  have HX0 := Lib.hid hx0
  clear hnn hvb hvd hrb hrd hx0
  go_enter Try.func56, Try.ntmps56
  go_upto_region 1 with (fail)
  have hxa := ((Mix.Ex.refl w).alloc (.cells #[.int .i64 x.1.x0, .int .i64 x.1.y0] 28)).alloc (.cells #[.int .i64 x.1.x1, .int .i64 x.1.y1] 28)
  have n5 := ((Mix.Ex.refl (w.alloc (.cells #[.int .i64 x.1.x0, .int .i64 x.1.y0] 28))).alloc (.cells #[.int .i64 x.1.x1, .int .i64 x.1.y1] 28)).obj (heap_alloc_new w (.cells #[.int .i64 x.1.x0, .int .i64 x.1.y0] 28))
  have n6 := heap_alloc_new (w.alloc (.cells #[.int .i64 x.1.x0, .int .i64 x.1.y0] 28)) (.cells #[.int .i64 x.1.x1, .int .i64 x.1.y1] 28)
  rw [World.size_alloc] at n6
  change Code.wp _ _ _ _ ((w.alloc (.cells #[.int .i64 x.1.x0, .int .i64 x.1.y0] 28)).alloc (.cells #[.int .i64 x.1.x1, .int .i64 x.1.y1] 28))
  generalize ((w.alloc (.cells #[.int .i64 x.1.x0, .int .i64 x.1.y0] 28)).alloc (.cells #[.int .i64 x.1.x1, .int .i64 x.1.y1] 28)) = w1 at hxa n5 n6 ⊢
  obtain ⟨B5, hB5⟩ : ∃ B5, w.heap.size = B5 := ⟨_, rfl⟩
  obtain ⟨B6, hB6⟩ : ∃ B6, w.heap.size + 1 = B6 := ⟨_, rfl⟩
  rw [hB6] at n6 ⊢
  rw [hB5] at n5 ⊢
  have hvb := hxa.obj HVB.out
  have hvd := hxa.obj HVD.out
  have hrb := HRB.out.ex hxa
  have hrd := HRD.out.ex hxa
  have hx1 := HX0.out.trans hxa
  have lbw : ∀ k, vb.ownBlock = some k → base ≤ k ∧ k < B5 := fun k hk => hB5 ▸ HRB.out.lt k hk
  have ldw : ∀ k, vd.ownBlock = some k → base ≤ k ∧ k < B5 := fun k hk => hB5 ▸ HRD.out.lt k hk
  have hbs1 : base ≤ w1.heap.size := Nat.le_trans hbs hxa.below.size
  have hB1 : B6 < w1.heap.size := (Array.getElem?_eq_some_iff.1 n6).1
  have hxb : ∀ b, Frn w pb pd b → w1.heap[b]? = w.heap[b]? := fun b hb => hxa.below.block b hb.lt
  have FVB : Hid (∀ b, Frn w pb pd b → vb.ownBlock ≠ some b ∧ vd.ownBlock ≠ some b) := Lib.hid fun b hb => ⟨hb.vb _ HVB.out, hb.vd _ HVD.out⟩
  clear hxa HVB HVD HRB HRD HX0
  have kbd : vb.ownBlock = none ∨ vb.ownBlock ≠ vd.ownBlock := by
    cases hb : vb.ownBlock with
    | none => exact .inl rfl
    | some k => exact .inr (Ne.symm (HNN.out k hb))
  have kdb : vd.ownBlock = none ∨ vd.ownBlock ≠ vb.ownBlock := by
    cases hb : vd.ownBlock with
    | none => exact .inl rfl
    | some k => exact .inr fun e => HNN.out k e.symm hb
  have KBD := Lib.hid kbd
  have KDB := Lib.hid kdb
  have LBW := Lib.hid lbw
  have LDW := Lib.hid ldw
  clear kbd kdb lbw ldw
  -- what holds of every world on the way
  have mk : ∀ W, (Mix.Ex w0 W ∧ W.heap[pb]? = some (.cells #[vb] 68 (0, 0)) ∧ W.heap[pd]? = some (.cells #[vd] 43 (0, 0)) ∧ W.heap[B5]? = some (.cells #[.int .i64 x.1.x0, .int .i64 x.1.y0] 28 (0, 0)) ∧ W.heap[B6]? = some (.cells #[.int .i64 x.1.x1, .int .i64 x.1.y1] 28 (0, 0)) ∧ w1.heap.size ≤ W.heap.size ∧ ∀ b, Frn w pb pd b → W.heap[b]? = w.heap[b]?) →
      (W.cell? ⟨pb, 0, none⟩ = some vb ∧ W.cell? ⟨pd, 0, none⟩ = some vd ∧ W.cell? ⟨B5, 0, none⟩ = some (.int .i64 x.1.x0) ∧ W.cell? ⟨B5, 1, none⟩ = some (.int .i64 x.1.y0) ∧ W.cell? ⟨B6, 0, none⟩ = some (.int .i64 x.1.x1) ∧ W.cell? ⟨B6, 1, none⟩ = some (.int .i64 x.1.y1)) := by
    rintro W ⟨_, h1, h2, h3, h4, _⟩
    exact ⟨by rw [cellOf h1]; rfl, by rw [cellOf h2]; rfl, by rw [cellOf h3]; rfl, by rw [cellOf h3]; rfl, by rw [cellOf h4]; rfl, by rw [cellOf h4]; rfl⟩
  have MK := Lib.hid mk
  clear mk
  have ok1 : Mix.Ex w0 (w1.drewN 1) ∧ (w1.drewN 1).heap[pb]? = some (.cells #[vb] 68 (0, 0)) ∧ (w1.drewN 1).heap[pd]? = some (.cells #[vd] 43 (0, 0)) ∧ (w1.drewN 1).heap[B5]? = some (.cells #[.int .i64 x.1.x0, .int .i64 x.1.y0] 28 (0, 0)) ∧ (w1.drewN 1).heap[B6]? = some (.cells #[.int .i64 x.1.x1, .int .i64 x.1.y1] 28 (0, 0)) ∧ w1.heap.size ≤ (w1.drewN 1).heap.size ∧ ∀ b, Frn w pb pd b → (w1.drewN 1).heap[b]? = w.heap[b]? := ⟨hx1.drewN 1, hvb, hvd, n5, n6, Nat.le_refl _, hxb⟩
  have hrb := hrb.ex ((Mix.Ex.refl w1).drewN 1)
  have hrd := hrd.ex ((Mix.Ex.refl w1).drewN 1)
  have hsz : (w1.drewN 1).heap.size = w1.heap.size := rfl
  refine wp_region_K (fun W => W.cell? ⟨pb, 0, none⟩ = some vb ∧ W.cell? ⟨pd, 0, none⟩ = some vd ∧ W.cell? ⟨B5, 0, none⟩ = some (.int .i64 x.1.x0) ∧ W.cell? ⟨B5, 1, none⟩ = some (.int .i64 x.1.y0) ∧ W.cell? ⟨B6, 0, none⟩ = some (.int .i64 x.1.x1) ∧ W.cell? ⟨B6, 1, none⟩ = some (.int .i64 x.1.y1)) 10 (by kernel_rfl) ?_
  change wpAnyK _ _ _ _ _ 12 (Array.replicate 12 false) _ _
  have HC := MK.out _ ok1
  (refine wpAnyK_take (i := 0) (oi := ?_) (v := ?_) ?_ ?_ ?_ ?_ ?_ ?_ ?_ ?_ ?_; rotate_left 2; (focus (simp only [List.getElem?_toArray, List.getElem?_cons_zero, List.getElem?_cons_succ]; rfl)); (focus kernel_rfl); (focus kernel_rfl); (focus kernel_rfl); (focus kernel_rfl); (focus exact fun _ _ _ h => h); (focus (refine Or.inl ⟨by rfl, ?_⟩; intro W hW; (try dsimp only at hW); go_simp; try with_reducible rfl)); (focus exact HC); (try simp only [Act.put, List.setIfInBounds_toArray, List.set_cons_zero, List.set_cons_succ]))
  (refine wpAnyK_take (i := 1) (oi := ?_) (v := ?_) ?_ ?_ ?_ ?_ ?_ ?_ ?_ ?_ ?_; rotate_left 2; (focus (simp only [List.getElem?_toArray, List.getElem?_cons_zero, List.getElem?_cons_succ]; rfl)); (focus kernel_rfl); (focus kernel_rfl); (focus kernel_rfl); (focus kernel_rfl); (focus exact fun _ _ _ h => h); (focus (refine Or.inl ⟨by rfl, ?_⟩; intro W hW; (try dsimp only at hW); go_simp; try with_reducible rfl)); (focus exact HC); (try simp only [Act.put, List.setIfInBounds_toArray, List.set_cons_zero, List.set_cons_succ]))
  (refine wpAnyK_take (i := 2) (oi := ?_) (v := ?_) ?_ ?_ ?_ ?_ ?_ ?_ ?_ ?_ ?_; rotate_left 2; (focus (simp only [List.getElem?_toArray, List.getElem?_cons_zero, List.getElem?_cons_succ]; rfl)); (focus kernel_rfl); (focus kernel_rfl); (focus kernel_rfl); (focus kernel_rfl); (focus exact fun _ _ _ h => h); (focus (refine Or.inl ⟨by rfl, ?_⟩; intro W hW; (try dsimp only at hW); go_simp; try with_reducible rfl)); (focus exact HC); (try simp only [Act.put, List.setIfInBounds_toArray, List.set_cons_zero, List.set_cons_succ]))
  (refine wpAnyK_take (i := 3) (oi := ?_) (v := ?_) ?_ ?_ ?_ ?_ ?_ ?_ ?_ ?_ ?_; rotate_left 2; (focus (simp only [List.getElem?_toArray, List.getElem?_cons_zero, List.getElem?_cons_succ]; rfl)); (focus kernel_rfl); (focus kernel_rfl); (focus kernel_rfl); (focus kernel_rfl); (focus exact fun _ _ _ h => h); (focus (refine Or.inl ⟨by rfl, ?_⟩; intro W hW; (try dsimp only at hW); go_simp; try with_reducible rfl)); (focus exact HC); (try simp only [Act.put, List.setIfInBounds_toArray, List.set_cons_zero, List.set_cons_succ]))
  clear HC
  have OK1 := Lib.hid ok1
  clear hvb hvd n5 n6 hx1 ok1 hxb
  generalize w1.drewN 1 = w2 at OK1 hrb hrd hsz ⊢
  have HRB := Lib.hid hrb
  have HRD := Lib.hid hrd
  clear hrb hrd
  have ALC : Hid (∀ W W', Mix.Ex W W' → (Mix.Ex w0 W ∧ W.heap[pb]? = some (.cells #[vb] 68 (0, 0)) ∧ W.heap[pd]? = some (.cells #[vd] 43 (0, 0)) ∧ W.heap[B5]? = some (.cells #[.int .i64 x.1.x0, .int .i64 x.1.y0] 28 (0, 0)) ∧ W.heap[B6]? = some (.cells #[.int .i64 x.1.x1, .int .i64 x.1.y1] 28 (0, 0)) ∧ w1.heap.size ≤ W.heap.size ∧ ∀ b, Frn w pb pd b → W.heap[b]? = w.heap[b]?) → (Mix.Ex w0 W' ∧ W'.heap[pb]? = some (.cells #[vb] 68 (0, 0)) ∧ W'.heap[pd]? = some (.cells #[vd] 43 (0, 0)) ∧ W'.heap[B5]? = some (.cells #[.int .i64 x.1.x0, .int .i64 x.1.y0] 28 (0, 0)) ∧ W'.heap[B6]? = some (.cells #[.int .i64 x.1.x1, .int .i64 x.1.y1] 28 (0, 0)) ∧ w1.heap.size ≤ W'.heap.size ∧ ∀ b, Frn w pb pd b → W'.heap[b]? = w.heap[b]?)) :=
    Lib.hid fun W W' h ⟨a, b, c, d, e, f, k⟩ => ⟨a.trans h, h.obj b, h.obj c, h.obj d, h.obj e, Nat.le_trans f h.below.size, fun i hi => (h.below.block i (Nat.lt_of_lt_of_le hi.lt (by omega))).trans (k i hi)⟩
  have GRW : Hid (∀ W W' row, W.grownBy W' row → (∀ k, row = some k → base ≤ k ∧ k < B5) → (∀ b, Frn w pb pd b → row ≠ some b) → (Mix.Ex w0 W ∧ W.heap[pb]? = some (.cells #[vb] 68 (0, 0)) ∧ W.heap[pd]? = some (.cells #[vd] 43 (0, 0)) ∧ W.heap[B5]? = some (.cells #[.int .i64 x.1.x0, .int .i64 x.1.y0] 28 (0, 0)) ∧ W.heap[B6]? = some (.cells #[.int .i64 x.1.x1, .int .i64 x.1.y1] 28 (0, 0)) ∧ w1.heap.size ≤ W.heap.size ∧ ∀ b, Frn w pb pd b → W.heap[b]? = w.heap[b]?) → (Mix.Ex w0 W' ∧ W'.heap[pb]? = some (.cells #[vb] 68 (0, 0)) ∧ W'.heap[pd]? = some (.cells #[vd] 43 (0, 0)) ∧ W'.heap[B5]? = some (.cells #[.int .i64 x.1.x0, .int .i64 x.1.y0] 28 (0, 0)) ∧ W'.heap[B6]? = some (.cells #[.int .i64 x.1.x1, .int .i64 x.1.y1] 28 (0, 0)) ∧ w1.heap.size ≤ W'.heap.size ∧ ∀ b, Frn w pb pd b → W'.heap[b]? = w.heap[b]?)) :=
    Lib.hid fun W W' row h hr hfr ⟨a, b, c, d, e, f, kk⟩ => ⟨a.grown h (fun k hk => by have := hr k hk; omega), grown_keep h b (fun e => by have := hr _ e; omega), grown_keep h c (fun e => by have := hr _ e; omega), grown_keep h d (fun e => by have := hr _ e; omega), grown_keep h e (fun e => by have := hr _ e; omega), Nat.le_trans f h.size, fun i hi => (h.block i (Nat.lt_of_lt_of_le hi.lt (by omega)) (Ne.symm (hfr i hi))).trans (kk i hi)⟩
  refine wpAnyK_rgC (us := [4, 5, 6, 7, 8, 9])
    (fun i W => match i with
      | 5 => W.Row base 71 4 bI vb L
      | 9 => W.Row base 3 1 dI vd L
      | _ => True)
    (fun i v W => match i with
      | 4 => ∃ G c, v = .slice (some ⟨G, 0, none⟩) 1 c ∧ W.heap[G]? = some (.cells (bI x).toArray 71 (0, 0)) ∧ B5 ≤ G
      | 5 => ∃ g cap, v = .slice (some ⟨g, 0, none⟩) (L.length + 1) cap ∧ W.Row base 71 4 bI (.slice (some ⟨g, 0, none⟩) (L.length + 1) cap) (L ++ [x]) ∧ (vb.ownBlock = some g ∨ B5 ≤ g)
      | 6 => v = vd
      | 7 => v = .int .i64 x.2
      | 8 => ∃ G c, v = .slice (some ⟨G, 0, none⟩) 1 c ∧ W.heap[G]? = some (.cells (dI x).toArray 3 (0, 0)) ∧ B5 ≤ G
      | 9 => ∃ g cap, v = .slice (some ⟨g, 0, none⟩) (L.length + 1) cap ∧ W.Row base 3 1 dI (.slice (some ⟨g, 0, none⟩) (L.length + 1) cap) (L ++ [x]) ∧ (vd.ownBlock = some g ∨ B5 ≤ g)
      | _ => True)
    (fun i w w' => match i with
      | 5 => w.grownBy w' vb.ownBlock
      | 9 => w.grownBy w' vd.ownBlock
      | _ => Mix.Ex w w')
    (fun W => Mix.Ex w0 W ∧ W.heap[pb]? = some (.cells #[vb] 68 (0, 0)) ∧ W.heap[pd]? = some (.cells #[vd] 43 (0, 0)) ∧ W.heap[B5]? = some (.cells #[.int .i64 x.1.x0, .int .i64 x.1.y0] 28 (0, 0)) ∧ W.heap[B6]? = some (.cells #[.int .i64 x.1.x1, .int .i64 x.1.y1] 28 (0, 0)) ∧ w1.heap.size ≤ W.heap.size ∧ ∀ b, Frn w pb pd b → W.heap[b]? = w.heap[b]?)
    (by kernel_rfl) 2 MK.out OK1.out ?_ ?_ ?_ ?_ ?_
  · intro i hi
    simp only [List.mem_cons, List.not_mem_nil, or_false] at hi
    rcases hi with rfl | rfl | rfl | rfl | rfl | rfl
    · trivial
    · exact HRB.out
    · trivial
    · trivial
    · trivial
    · exact HRD.out
  · intro i hi j hj hij W W' hb hg
    simp only [List.mem_cons, List.not_mem_nil, or_false] at hi hj
    rcases hi with rfl | rfl | rfl | rfl | rfl | rfl <;> rcases hj with rfl | rfl | rfl | rfl | rfl | rfl <;> first
      | exact absurd rfl hij
      | trivial
      | exact World.Row.ex hb hg
      | exact World.Row.kept hb hg KBD.out
      | exact World.Row.kept hb hg KDB.out
  · intro i hi j hj hij v W W' hv hg
    simp only [List.mem_cons, List.not_mem_nil, or_false] at hi hj
    rcases hi with rfl | rfl | rfl | rfl | rfl | rfl
    · obtain ⟨G, c, h1, h2, h3⟩ := hv
      refine ⟨G, c, h1, ?_, h3⟩
      rcases hj with rfl | rfl | rfl | rfl | rfl | rfl
      · exact absurd rfl hij
      · exact grown_keep hg h2 (fun e => by have := LBW.out _ e; omega)
      · exact Mix.Ex.obj hg h2
      · exact Mix.Ex.obj hg h2
      · exact Mix.Ex.obj hg h2
      · exact grown_keep hg h2 (fun e => by have := LDW.out _ e; omega)
    · obtain ⟨G, c, h1, h2, h3⟩ := hv
      refine ⟨G, c, h1, ?_, h3⟩
      rcases hj with rfl | rfl | rfl | rfl | rfl | rfl
      · exact h2.ex hg
      · exact absurd rfl hij
      · exact h2.ex hg
      · exact h2.ex hg
      · exact h2.ex hg
      · refine h2.kept hg (.inr fun e => ?_)
        simp only [Value.ownBlock] at e
        rcases h3 with h3 | h3
        · exact HNN.out _ h3 e.symm
        · have := LDW.out _ e.symm; omega
    · exact hv
    · exact hv
    · obtain ⟨G, c, h1, h2, h3⟩ := hv
      refine ⟨G, c, h1, ?_, h3⟩
      rcases hj with rfl | rfl | rfl | rfl | rfl | rfl
      · exact Mix.Ex.obj hg h2
      · exact grown_keep hg h2 (fun e => by have := LBW.out _ e; omega)
      · exact Mix.Ex.obj hg h2
      · exact Mix.Ex.obj hg h2
      · exact absurd rfl hij
      · exact grown_keep hg h2 (fun e => by have := LDW.out _ e; omega)
    · obtain ⟨G, c, h1, h2, h3⟩ := hv
      refine ⟨G, c, h1, ?_, h3⟩
      rcases hj with rfl | rfl | rfl | rfl | rfl | rfl
      · exact h2.ex hg
      · refine h2.kept hg (.inr fun e => ?_)
        simp only [Value.ownBlock] at e
        rcases h3 with h3 | h3
        · exact HNN.out _ e.symm h3
        · have := LBW.out _ e.symm; omega
      · exact h2.ex hg
      · exact h2.ex hg
      · exact h2.ex hg
      · exact absurd rfl hij
  · intro i hi
    simp only [List.mem_cons, List.not_mem_nil, or_false] at hi
    rcases hi with rfl | rfl | rfl | rfl | rfl | rfl
    · intro o ho y W hI hb hd K hK
      simp only [List.getElem?_toArray, List.getElem?_cons_zero, List.getElem?_cons_succ, Option.some.injEq] at ho
      subst ho
      simp only [putU, dstOf, List.getElem?_toArray, List.getElem?_cons_zero, List.getElem?_cons_succ, Option.bind_some, Act.put, List.setIfInBounds_toArray, List.set_cons_zero, List.set_cons_succ] at hK ⊢
      clear hd
      have hlw : w1.heap.size ≤ W.heap.size := hI.2.2.2.2.2.1
      have HI := Lib.hid hI
      clear hI hb
      go_simp
      exact hK _ _ (ALC.out _ _ ((Mix.Ex.refl _).alloc _) HI.out) ((Mix.Ex.refl _).alloc _) ⟨W.heap.size, _, rfl, heap_alloc_new _ _, by omega⟩
    · intro o ho y W hI hb hd K hK
      simp only [List.getElem?_toArray, List.getElem?_cons_zero, List.getElem?_cons_succ, Option.some.injEq] at ho
      subst ho
      simp only [putU, dstOf, List.getElem?_toArray, List.getElem?_cons_zero, List.getElem?_cons_succ, Option.bind_some, Act.put, List.setIfInBounds_toArray, List.set_cons_zero, List.set_cons_succ] at hK ⊢
      have hd4 := hd ⟨4, .data⟩ (by simp) rfl rfl
      obtain ⟨G, c, h1, h2, h3⟩ := hd4
      rw [h1] at hK ⊢
      clear hd h1
      have hlw : w1.heap.size ≤ W.heap.size := hI.2.2.2.2.2.1
      refine wp_append_row (.tmp 9) (.tmp 13) 68 rfl base 71 i0 _ 4 32 Try.underlying68 hi0 hz0 hz1 hz2 rfl (by omega) bI vb L x rfl hb ⟨G, 0, none⟩ c rfl (news_of_cells h2) (bI_one x) (by unfold maxLen; omega) (by omega) (by omega) ?_
      intro g cap w' hr hg ho hlt
      exact hK _ _ (GRW.out _ _ _ hg LBW.out (fun b hb => (FVB.out b hb).1) hI) hg ⟨g, cap, rfl, hr, ho.imp id fun e => by omega⟩
    · intro o ho y W hI hb hd K hK
      simp only [List.getElem?_toArray, List.getElem?_cons_zero, List.getElem?_cons_succ, Option.some.injEq] at ho
      subst ho
      simp only [putU, dstOf, List.getElem?_toArray, List.getElem?_cons_zero, List.getElem?_cons_succ, Option.bind_some, Act.put, List.setIfInBounds_toArray, List.set_cons_zero, List.set_cons_succ] at hK ⊢
      clear hd
      have hcd := (MK.out _ hI).2.1
      have HI := Lib.hid hI
      clear hI hb
      go_simp
      exact hK _ _ HI.out (Mix.Ex.refl _) rfl
    · intro o ho y W hI hb hd K hK
      simp only [List.getElem?_toArray, List.getElem?_cons_zero, List.getElem?_cons_succ, Option.some.injEq] at ho
      subst ho
      simp only [putU, dstOf, List.getElem?_toArray, List.getElem?_cons_zero, List.getElem?_cons_succ, Option.bind_some, Act.put, List.setIfInBounds_toArray, List.set_cons_zero, List.set_cons_succ] at hK ⊢
      clear hd
      have HI := Lib.hid hI
      clear hI hb
      go_simp
      exact hK _ _ HI.out (Mix.Ex.refl _) rfl
    · intro o ho y W hI hb hd K hK
      simp only [List.getElem?_toArray, List.getElem?_cons_zero, List.getElem?_cons_succ, Option.some.injEq] at ho
      subst ho
      simp only [putU, dstOf, List.getElem?_toArray, List.getElem?_cons_zero, List.getElem?_cons_succ, Option.bind_some, Act.put, List.setIfInBounds_toArray, List.set_cons_zero, List.set_cons_succ] at hK ⊢
      have h7 := hd ⟨7, .data⟩ (by simp) rfl rfl
      dsimp only at h7
      rw [h7] at hK ⊢
      clear hd h7
      have hlw : w1.heap.size ≤ W.heap.size := hI.2.2.2.2.2.1
      have HI := Lib.hid hI
      clear hI hb
      go_simp
      exact hK _ _ (ALC.out _ _ ((Mix.Ex.refl _).alloc _) HI.out) ((Mix.Ex.refl _).alloc _) ⟨W.heap.size, _, rfl, heap_alloc_new _ _, by omega⟩
    · intro o ho y W hI hb hd K hK
      simp only [List.getElem?_toArray, List.getElem?_cons_zero, List.getElem?_cons_succ, Option.some.injEq] at ho
      subst ho
      simp only [putU, dstOf, List.getElem?_toArray, List.getElem?_cons_zero, List.getElem?_cons_succ, Option.bind_some, Act.put, List.setIfInBounds_toArray, List.set_cons_zero, List.set_cons_succ] at hK ⊢
      have hd4 := hd ⟨8, .data⟩ (by simp) rfl rfl
      obtain ⟨G, c, h1, h2, h3⟩ := hd4
      have h6 := hd ⟨6, .data⟩ (by simp) rfl rfl
      dsimp only at h6
      rw [h1, h6] at hK ⊢
      clear hd h1 h6
      have hlw : w1.heap.size ≤ W.heap.size := hI.2.2.2.2.2.1
      refine wp_append_row (.tmp 15) (.tmp 17) 43 rfl base 3 j0 _ 1 8 Try.underlying43 hj0 hy0 hy1 hy2 rfl (by omega) dI vd L x rfl hb ⟨G, 0, none⟩ c rfl (news_of_cells h2) (dI_one x) (by unfold maxLen; omega) (by omega) (by omega) ?_
      intro g cap w' hr hg ho hlt
      exact hK _ _ (GRW.out _ _ _ hg LDW.out (fun b hb => (FVB.out b hb).2) hI) hg ⟨g, cap, rfl, hr, ho.imp id fun e => by omega⟩
  · intro y W hI hA
    obtain ⟨gb, cb, e5, r5, o5⟩ := hA 5 (by simp)
    obtain ⟨gd, cd, e9, r9, o9⟩ := hA 9 (by simp)
    clear hA
    simp only [putU, dstOf, List.getElem?_toArray, List.getElem?_cons_zero, List.getElem?_cons_succ, Option.bind_some, Act.put, List.setIfInBounds_toArray, List.set_cons_zero, List.set_cons_succ]
    rw [e5, e9]
    generalize y 4 = y4
    generalize y 8 = y8
    generalize y 6 = y6
    generalize y 7 = y7
    clear e5 e9 y
    obtain ⟨a1, a2, a3, a4, a5, a6, a7⟩ := hI
    have hKB : ∀ b, Frn w pb pd b → gb ≠ b ∧ gd ≠ b := fun b hb => by
      have hbl := hb.lt
      refine ⟨fun e => ?_, fun e => ?_⟩
      · rcases o5 with o5 | o5
        · exact (FVB.out b hb).1 (by rw [o5, e])
        · omega
      · rcases o9 with o9 | o9
        · exact (FVB.out b hb).2 (by rw [o9, e])
        · omega
    have HKB := Lib.hid hKB
    have HA7 := Lib.hid a7
    clear hKB a7
    have hgb := (r5.lt gb rfl)
    have hgd := (r9.lt gd rfl)
    have s1 : W.cell? ⟨pb, 0, none⟩ = some vb := by rw [cellOf a2]; rfl
    have s2 : W.frozen? ⟨pb, 0, none⟩ = false := frzOf a2 0
    have b2 := setCell_obj a2 0 (.slice (some ⟨gb, 0, none⟩) (L.length + 1) cb)
    have b3 : (W.setCell ⟨pb, 0, none⟩ (.slice (some ⟨gb, 0, none⟩) (L.length + 1) cb)).heap[pd]? = _ := (setCell_ne 0 (Ne.symm hne) _ none).trans a3
    have r5 := r5.of_block (w' := W.setCell ⟨pb, 0, none⟩ (.slice (some ⟨gb, 0, none⟩) (L.length + 1) cb)) (fun k hk => by simp only [Value.ownBlock, Option.some.injEq] at hk; subst hk; exact setCell_ne _ (by omega) _ _)
    have r9 := r9.of_block (w' := W.setCell ⟨pb, 0, none⟩ (.slice (some ⟨gb, 0, none⟩) (L.length + 1) cb)) (fun k hk => by simp only [Value.ownBlock, Option.some.injEq] at hk; subst hk; exact setCell_ne _ (by omega) _ _)
    have x2 := a1.setCell (p := ⟨pb, 0, none⟩) h0 (.slice (some ⟨gb, 0, none⟩) (L.length + 1) cb)
    have z2 : (W.setCell ⟨pb, 0, none⟩ (.slice (some ⟨gb, 0, none⟩) (L.length + 1) cb)).heap.size = W.heap.size := by simp [World.setCell]
    simp only [List.setIfInBounds_toArray, List.set_cons_zero] at b2
    have y2 : Hid (∀ b, Frn w pb pd b → (W.setCell ⟨pb, 0, none⟩ (.slice (some ⟨gb, 0, none⟩) (L.length + 1) cb)).heap[b]? = w.heap[b]?) := Lib.hid fun b hb => (setCell_ne 0 hb.nb _ none).trans (HA7.out b hb)
    (refine wpAnyK_one (i := 10) (o := ?_) ?_ ?_ ?_ (fun K hK => ?_); rotate_left 1; (focus kernel_rfl); (focus (simp only [List.getElem?_toArray, List.getElem?_cons_zero, List.getElem?_cons_succ]; rfl)); (focus rfl))
    go_simp
    generalize W.setCell ⟨pb, 0, none⟩ (.slice (some ⟨gb, 0, none⟩) (L.length + 1) cb) = W2 at b2 b3 r5 r9 x2 z2 y2 hK ⊢
    refine hK _ _ (fun h => absurd h (by decide +kernel)) ?_
    clear hK K s1 s2
    have s1 : W2.cell? ⟨pd, 0, none⟩ = some vd := by rw [cellOf b3]; rfl
    have s2 : W2.frozen? ⟨pd, 0, none⟩ = false := frzOf b3 0
    have c3 := setCell_obj b3 0 (.slice (some ⟨gd, 0, none⟩) (L.length + 1) cd)
    have c2 : (W2.setCell ⟨pd, 0, none⟩ (.slice (some ⟨gd, 0, none⟩) (L.length + 1) cd)).heap[pb]? = _ := (setCell_ne 0 hne _ none).trans b2
    have r5 := r5.of_block (w' := W2.setCell ⟨pd, 0, none⟩ (.slice (some ⟨gd, 0, none⟩) (L.length + 1) cd)) (fun k hk => by simp only [Value.ownBlock, Option.some.injEq] at hk; subst hk; exact setCell_ne _ (by omega) _ _)
    have r9 := r9.of_block (w' := W2.setCell ⟨pd, 0, none⟩ (.slice (some ⟨gd, 0, none⟩) (L.length + 1) cd)) (fun k hk => by simp only [Value.ownBlock, Option.some.injEq] at hk; subst hk; exact setCell_ne _ (by omega) _ _)
    have x3 := x2.setCell (p := ⟨pd, 0, none⟩) h1 (.slice (some ⟨gd, 0, none⟩) (L.length + 1) cd)
    have z3 : (W2.setCell ⟨pd, 0, none⟩ (.slice (some ⟨gd, 0, none⟩) (L.length + 1) cd)).heap.size = W2.heap.size := by simp [World.setCell]
    simp only [List.setIfInBounds_toArray, List.set_cons_zero] at c3
    have y3 : Hid (∀ b, Frn w pb pd b → (W2.setCell ⟨pd, 0, none⟩ (.slice (some ⟨gd, 0, none⟩) (L.length + 1) cd)).heap[b]? = w.heap[b]?) := Lib.hid fun b hb => (setCell_ne 0 hb.nd _ none).trans (y2.out b hb)
    (refine wpAnyK_one (i := 11) (o := ?_) ?_ ?_ ?_ (fun K hK => ?_); rotate_left 1; (focus kernel_rfl); (focus (simp only [List.getElem?_toArray, List.getElem?_cons_zero, List.getElem?_cons_succ]; rfl)); (focus rfl))
    go_simp
    generalize W2.setCell ⟨pd, 0, none⟩ (.slice (some ⟨gd, 0, none⟩) (L.length + 1) cd) = W3 at c2 c3 r5 r9 x3 z3 y3 hK ⊢
    refine hK _ _ (fun h => absurd h (by decide +kernel)) ?_
    clear hK K s1 s2
    refine wpAnyK_done (by kernel_rfl) ?_ _
    have hfin : Coll W3 base pb pd (L ++ [x]) := ⟨hne, lb, ld, by omega, _, _, c2, c3, r5, r9⟩
    have hkp : Kp w W3 pb pd := fun b hb => by
      obtain ⟨q1, q2⟩ := HKB.out b hb
      have hbl := hb.lt
      refine ⟨y3.out b hb, hb.nb, hb.nd, by omega, fun v hv => ?_, fun v hv => ?_⟩
      · rw [c2] at hv
        simp only [Option.some.injEq, Obj.cells.injEq, Array.mk.injEq, List.cons.injEq, and_true] at hv
        rw [← hv]
        simp only [Value.ownBlock, ne_eq, Option.some.injEq]
        exact q1
      · rw [c3] at hv
        simp only [Option.some.injEq, Obj.cells.injEq, Array.mk.injEq, List.cons.injEq, and_true] at hv
        rw [← hv]
        simp only [Value.ownBlock, ne_eq, Option.some.injEq]
        exact q2
    have HF := Lib.hid hfin
    have HX := Lib.hid x3
    have HKP := Lib.hid hkp
    clear hkp
    clear hfin x3 c2 c3 r5 r9 b2 b3 a1 a2 a3 a4 a5 x2
    go_wp2_with fail
    go_ret
    exact ⟨rfl, HF.out, HX.out, HKP.out⟩
set_option maxRecDepth 100000 in
set_option maxHeartbeats 1600000 in
theorem searchClo_c (w0 w : World) (base pb pd : Nat) (L : List (R × Int)) (x : R × Int) (hC : Coll w base pb pd L) (hl : L.length ≤ 900000) (hx0 : Mix.Ex w0 w) (h0 : w0.heap.size ≤ pb) (h1 : w0.heap.size ≤ pd) :
    Calls Try.prog 54 #[.agg #[.int .i64 x.1.x0, .int .i64 x.1.y0], .agg #[.int .i64 x.1.x1, .int .i64 x.1.y1], .int .i64 x.2, .pointer (some ⟨pb, 0, none⟩), .pointer (some ⟨pd, 0, none⟩)] w fun e w' =>
      e = .returned (.bool true) ∧ Coll w' base pb pd (L ++ [x]) ∧ Mix.Ex w0 w' ∧ Kp w w' pb pd := by
  obtain ⟨i0, hi0, hz0, hz1, hz2⟩ := info_parts info_rbox
  obtain ⟨j0, hj0, hy0, hy1, hy2⟩ := info_parts info_int
  obtain ⟨hne, lb, ld, hbs, vb, vd, hvb, hvd, hrb, hrd⟩ := hC
  have hnn := hrb.apart hrd (by decide)
  have HNN := Lib.hid hnn
  have HVB := Lib.hid hvb
  have HVD := Lib.hid hvd
  have HRB := Lib.hid hrb
  have HRD := Lib.hid hrd
  have HX0 := Lib.hid hx0
  clear hnn hvb hvd hrb hrd hx0
  go_enter Try.func54, Try.ntmps54
  go_upto_region 1 with (fail)
  have hxa := ((Mix.Ex.refl w).alloc (.cells #[.int .i64 x.1.x0, .int .i64 x.1.y0] 28)).alloc (.cells #[.int .i64 x.1.x1, .int .i64 x.1.y1] 28)
  have n5 := ((Mix.Ex.refl (w.alloc (.cells #[.int .i64 x.1.x0, .int .i64 x.1.y0] 28))).alloc (.cells #[.int .i64 x.1.x1, .int .i64 x.1.y1] 28)).obj (heap_alloc_new w (.cells #[.int .i64 x.1.x0, .int .i64 x.1.y0] 28))
  have n6 := heap_alloc_new (w.alloc (.cells #[.int .i64 x.1.x0, .int .i64 x.1.y0] 28)) (.cells #[.int .i64 x.1.x1, .int .i64 x.1.y1] 28)
  rw [World.size_alloc] at n6
  change Code.wp _ _ _ _ ((w.alloc (.cells #[.int .i64 x.1.x0, .int .i64 x.1.y0] 28)).alloc (.cells #[.int .i64 x.1.x1, .int .i64 x.1.y1] 28))
  generalize ((w.alloc (.cells #[.int .i64 x.1.x0, .int .i64 x.1.y0] 28)).alloc (.cells #[.int .i64 x.1.x1, .int .i64 x.1.y1] 28)) = w1 at hxa n5 n6 ⊢
  obtain ⟨B5, hB5⟩ : ∃ B5, w.heap.size = B5 := ⟨_, rfl⟩
  obtain ⟨B6, hB6⟩ : ∃ B6, w.heap.size + 1 = B6 := ⟨_, rfl⟩
  rw [hB6] at n6 ⊢
  rw [hB5] at n5 ⊢
  have hvb := hxa.obj HVB.out
  have hvd := hxa.obj HVD.out
  have hrb := HRB.out.ex hxa
  have hrd := HRD.out.ex hxa
  have hx1 := HX0.out.trans hxa
  have lbw : ∀ k, vb.ownBlock = some k → base ≤ k ∧ k < B5 := fun k hk => hB5 ▸ HRB.out.lt k hk
  have ldw : ∀ k, vd.ownBlock = some k → base ≤ k ∧ k < B5 := fun k hk => hB5 ▸ HRD.out.lt k hk
  have hbs1 : base ≤ w1.heap.size := Nat.le_trans hbs hxa.below.size
  have hB1 : B6 < w1.heap.size := (Array.getElem?_eq_some_iff.1 n6).1
  have hxb : ∀ b, Frn w pb pd b → w1.heap[b]? = w.heap[b]? := fun b hb => hxa.below.block b hb.lt
  have FVB : Hid (∀ b, Frn w pb pd b → vb.ownBlock ≠ some b ∧ vd.ownBlock ≠ some b) := Lib.hid fun b hb => ⟨hb.vb _ HVB.out, hb.vd _ HVD.out⟩
  clear hxa HVB HVD HRB HRD HX0
  have kbd : vb.ownBlock = none ∨ vb.ownBlock ≠ vd.ownBlock := by
    cases hb : vb.ownBlock with
    | none => exact .inl rfl
    | some k => exact .inr (Ne.symm (HNN.out k hb))
  have kdb : vd.ownBlock = none ∨ vd.ownBlock ≠ vb.ownBlock := by
    cases hb : vd.ownBlock with
    | none => exact .inl rfl
    | some k => exact .inr fun e => HNN.out k e.symm hb
  have KBD := Lib.hid kbd
  have KDB := Lib.hid kdb
  have LBW := Lib.hid lbw
  have LDW := Lib.hid ldw
  clear kbd kdb lbw ldw
  -- what holds of every world on the way
  have mk : ∀ W, (Mix.Ex w0 W ∧ W.heap[pb]? = some (.cells #[vb] 68 (0, 0)) ∧ W.heap[pd]? = some (.cells #[vd] 43 (0, 0)) ∧ W.heap[B5]? = some (.cells #[.int .i64 x.1.x0, .int .i64 x.1.y0] 28 (0, 0)) ∧ W.heap[B6]? = some (.cells #[.int .i64 x.1.x1, .int .i64 x.1.y1] 28 (0, 0)) ∧ w1.heap.size ≤ W.heap.size ∧ ∀ b, Frn w pb pd b → W.heap[b]? = w.heap[b]?) →
      (W.cell? ⟨pb, 0, none⟩ = some vb ∧ W.cell? ⟨pd, 0, none⟩ = some vd ∧ W.cell? ⟨B5, 0, none⟩ = some (.int .i64 x.1.x0) ∧ W.cell? ⟨B5, 1, none⟩ = some (.int .i64 x.1.y0) ∧ W.cell? ⟨B6, 0, none⟩ = some (.int .i64 x.1.x1) ∧ W.cell? ⟨B6, 1, none⟩ = some (.int .i64 x.1.y1)) := by
    rintro W ⟨_, h1, h2, h3, h4, _⟩
    exact ⟨by rw [cellOf h1]; rfl, by rw [cellOf h2]; rfl, by rw [cellOf h3]; rfl, by rw [cellOf h3]; rfl, by rw [cellOf h4]; rfl, by rw [cellOf h4]; rfl⟩
  have MK := Lib.hid mk
  clear mk
  have ok1 : Mix.Ex w0 (w1.drewN 1) ∧ (w1.drewN 1).heap[pb]? = some (.cells #[vb] 68 (0, 0)) ∧ (w1.drewN 1).heap[pd]? = some (.cells #[vd] 43 (0, 0)) ∧ (w1.drewN 1).heap[B5]? = some (.cells #[.int .i64 x.1.x0, .int .i64 x.1.y0] 28 (0, 0)) ∧ (w1.drewN 1).heap[B6]? = some (.cells #[.int .i64 x.1.x1, .int .i64 x.1.y1] 28 (0, 0)) ∧ w1.heap.size ≤ (w1.drewN 1).heap.size ∧ ∀ b, Frn w pb pd b → (w1.drewN 1).heap[b]? = w.heap[b]? := ⟨hx1.drewN 1, hvb, hvd, n5, n6, Nat.le_refl _, hxb⟩
  have hrb := hrb.ex ((Mix.Ex.refl w1).drewN 1)
  have hrd := hrd.ex ((Mix.Ex.refl w1).drewN 1)
  have hsz : (w1.drewN 1).heap.size = w1.heap.size := rfl
  refine wp_region_K (fun W => W.cell? ⟨pb, 0, none⟩ = some vb ∧ W.cell? ⟨pd, 0, none⟩ = some vd ∧ W.cell? ⟨B5, 0, none⟩ = some (.int .i64 x.1.x0) ∧ W.cell? ⟨B5, 1, none⟩ = some (.int .i64 x.1.y0) ∧ W.cell? ⟨B6, 0, none⟩ = some (.int .i64 x.1.x1) ∧ W.cell? ⟨B6, 1, none⟩ = some (.int .i64 x.1.y1)) 10 (by kernel_rfl) ?_
  change wpAnyK _ _ _ _ _ 12 (Array.replicate 12 false) _ _
  have HC := MK.out _ ok1
  (refine wpAnyK_take (i := 0) (oi := ?_) (v := ?_) ?_ ?_ ?_ ?_ ?_ ?_ ?_ ?_ ?_; rotate_left 2; (focus (simp only [List.getElem?_toArray, List.getElem?_cons_zero, List.getElem?_cons_succ]; rfl)); (focus kernel_rfl); (focus kernel_rfl); (focus kernel_rfl); (focus kernel_rfl); (focus exact fun _ _ _ h => h); (focus (refine Or.inl ⟨by rfl, ?_⟩; intro W hW; (try dsimp only at hW); go_simp; try with_reducible rfl)); (focus exact HC); (try simp only [Act.put, List.setIfInBounds_toArray, List.set_cons_zero, List.set_cons_succ]))
  (refine wpAnyK_take (i := 1) (oi := ?_) (v := ?_) ?_ ?_ ?_ ?_ ?_ ?_ ?_ ?_ ?_; rotate_left 2; (focus (simp only [List.getElem?_toArray, List.getElem?_cons_zero, List.getElem?_cons_succ]; rfl)); (focus kernel_rfl); (focus kernel_rfl); (focus kernel_rfl); (focus kernel_rfl); (focus exact fun _ _ _ h => h); (focus (refine Or.inl ⟨by rfl, ?_⟩; intro W hW; (try dsimp only at hW); go_simp; try with_reducible rfl)); (focus exact HC); (try simp only [Act.put, List.setIfInBounds_toArray, List.set_cons_zero, List.set_cons_succ]))
  (refine wpAnyK_take (i := 2) (oi := ?_) (v := ?_) ?_ ?_ ?_ ?_ ?_ ?_ ?_ ?_ ?_; rotate_left 2; (focus (simp only [List.getElem?_toArray, List.getElem?_cons_zero, List.getElem?_cons_succ]; rfl)); (focus kernel_rfl); (focus kernel_rfl); (focus kernel_rfl); (focus kernel_rfl); (focus exact fun _ _ _ h => h); (focus (refine Or.inl ⟨by rfl, ?_⟩; intro W hW; (try dsimp only at hW); go_simp; try with_reducible rfl)); (focus exact HC); (try simp only [Act.put, List.setIfInBounds_toArray, List.set_cons_zero, List.set_cons_succ]))
  (refine wpAnyK_take (i := 3) (oi := ?_) (v := ?_) ?_ ?_ ?_ ?_ ?_ ?_ ?_ ?_ ?_; rotate_left 2; (focus (simp only [List.getElem?_toArray, List.getElem?_cons_zero, List.getElem?_cons_succ]; rfl)); (focus kernel_rfl); (focus kernel_rfl); (focus kernel_rfl); (focus kernel_rfl); (focus exact fun _ _ _ h => h); (focus (refine Or.inl ⟨by rfl, ?_⟩; intro W hW; (try dsimp only at hW); go_simp; try with_reducible rfl)); (focus exact HC); (try simp only [Act.put, List.setIfInBounds_toArray, List.set_cons_zero, List.set_cons_succ]))
  clear HC
  have OK1 := Lib.hid ok1
  clear hvb hvd n5 n6 hx1 ok1 hxb
  generalize w1.drewN 1 = w2 at OK1 hrb hrd hsz ⊢
  have HRB := Lib.hid hrb
  have HRD := Lib.hid hrd
  clear hrb hrd
  have ALC : Hid (∀ W W', Mix.Ex W W' → (Mix.Ex w0 W ∧ W.heap[pb]? = some (.cells #[vb] 68 (0, 0)) ∧ W.heap[pd]? = some (.cells #[vd] 43 (0, 0)) ∧ W.heap[B5]? = some (.cells #[.int .i64 x.1.x0, .int .i64 x.1.y0] 28 (0, 0)) ∧ W.heap[B6]? = some (.cells #[.int .i64 x.1.x1, .int .i64 x.1.y1] 28 (0, 0)) ∧ w1.heap.size ≤ W.heap.size ∧ ∀ b, Frn w pb pd b → W.heap[b]? = w.heap[b]?) → (Mix.Ex w0 W' ∧ W'.heap[pb]? = some (.cells #[vb] 68 (0, 0)) ∧ W'.heap[pd]? = some (.cells #[vd] 43 (0, 0)) ∧ W'.heap[B5]? = some (.cells #[.int .i64 x.1.x0, .int .i64 x.1.y0] 28 (0, 0)) ∧ W'.heap[B6]? = some (.cells #[.int .i64 x.1.x1, .int .i64 x.1.y1] 28 (0, 0)) ∧ w1.heap.size ≤ W'.heap.size ∧ ∀ b, Frn w pb pd b → W'.heap[b]? = w.heap[b]?)) :=
    Lib.hid fun W W' h ⟨a, b, c, d, e, f, k⟩ => ⟨a.trans h, h.obj b, h.obj c, h.obj d, h.obj e, Nat.le_trans f h.below.size, fun i hi => (h.below.block i (Nat.lt_of_lt_of_le hi.lt (by omega))).trans (k i hi)⟩
  have GRW : Hid (∀ W W' row, W.grownBy W' row → (∀ k, row = some k → base ≤ k ∧ k < B5) → (∀ b, Frn w pb pd b → row ≠ some b) → (Mix.Ex w0 W ∧ W.heap[pb]? = some (.cells #[vb] 68 (0, 0)) ∧ W.heap[pd]? = some (.cells #[vd] 43 (0, 0)) ∧ W.heap[B5]? = some (.cells #[.int .i64 x.1.x0, .int .i64 x.1.y0] 28 (0, 0)) ∧ W.heap[B6]? = some (.cells #[.int .i64 x.1.x1, .int .i64 x.1.y1] 28 (0, 0)) ∧ w1.heap.size ≤ W.heap.size ∧ ∀ b, Frn w pb pd b → W.heap[b]? = w.heap[b]?) → (Mix.Ex w0 W' ∧ W'.heap[pb]? = some (.cells #[vb] 68 (0, 0)) ∧ W'.heap[pd]? = some (.cells #[vd] 43 (0, 0)) ∧ W'.heap[B5]? = some (.cells #[.int .i64 x.1.x0, .int .i64 x.1.y0] 28 (0, 0)) ∧ W'.heap[B6]? = some (.cells #[.int .i64 x.1.x1, .int .i64 x.1.y1] 28 (0, 0)) ∧ w1.heap.size ≤ W'.heap.size ∧ ∀ b, Frn w pb pd b → W'.heap[b]? = w.heap[b]?)) :=
    Lib.hid fun W W' row h hr hfr ⟨a, b, c, d, e, f, kk⟩ => ⟨a.grown h (fun k hk => by have := hr k hk; omega), grown_keep h b (fun e => by have := hr _ e; omega), grown_keep h c (fun e => by have := hr _ e; omega), grown_keep h d (fun e => by have := hr _ e; omega), grown_keep h e (fun e => by have := hr _ e; omega), Nat.le_trans f h.size, fun i hi => (h.block i (Nat.lt_of_lt_of_le hi.lt (by omega)) (Ne.symm (hfr i hi))).trans (kk i hi)⟩
  refine wpAnyK_rgC (us := [4, 5, 6, 7, 8, 9])
    (fun i W => match i with
      | 5 => W.Row base 71 4 bI vb L
      | 9 => W.Row base 3 1 dI vd L
      | _ => True)
    (fun i v W => match i with
      | 4 => ∃ G c, v = .slice (some ⟨G, 0, none⟩) 1 c ∧ W.heap[G]? = some (.cells (bI x).toArray 71 (0, 0)) ∧ B5 ≤ G
      | 5 => ∃ g cap, v = .slice (some ⟨g, 0, none⟩) (L.length + 1) cap ∧ W.Row base 71 4 bI (.slice (some ⟨g, 0, none⟩) (L.length + 1) cap) (L ++ [x]) ∧ (vb.ownBlock = some g ∨ B5 ≤ g)
      | 6 => v = vd
      | 7 => v = .int .i64 x.2
      | 8 => ∃ G c, v = .slice (some ⟨G, 0, none⟩) 1 c ∧ W.heap[G]? = some (.cells (dI x).toArray 3 (0, 0)) ∧ B5 ≤ G
      | 9 => ∃ g cap, v = .slice (some ⟨g, 0, none⟩) (L.length + 1) cap ∧ W.Row base 3 1 dI (.slice (some ⟨g, 0, none⟩) (L.length + 1) cap) (L ++ [x]) ∧ (vd.ownBlock = some g ∨ B5 ≤ g)
      | _ => True)
    (fun i w w' => match i with
      | 5 => w.grownBy w' vb.ownBlock
      | 9 => w.grownBy w' vd.ownBlock
      | _ => Mix.Ex w w')
    (fun W => Mix.Ex w0 W ∧ W.heap[pb]? = some (.cells #[vb] 68 (0, 0)) ∧ W.heap[pd]? = some (.cells #[vd] 43 (0, 0)) ∧ W.heap[B5]? = some (.cells #[.int .i64 x.1.x0, .int .i64 x.1.y0] 28 (0, 0)) ∧ W.heap[B6]? = some (.cells #[.int .i64 x.1.x1, .int .i64 x.1.y1] 28 (0, 0)) ∧ w1.heap.size ≤ W.heap.size ∧ ∀ b, Frn w pb pd b → W.heap[b]? = w.heap[b]?)
    (by kernel_rfl) 2 MK.out OK1.out ?_ ?_ ?_ ?_ ?_
  · intro i hi
    simp only [List.mem_cons, List.not_mem_nil, or_false] at hi
    rcases hi with rfl | rfl | rfl | rfl | rfl | rfl
    · trivial
    · exact HRB.out
    · trivial
    · trivial
    · trivial
    · exact HRD.out
  · intro i hi j hj hij W W' hb hg
    simp only [List.mem_cons, List.not_mem_nil, or_false] at hi hj
    rcases hi with rfl | rfl | rfl | rfl | rfl | rfl <;> rcases hj with rfl | rfl | rfl | rfl | rfl | rfl <;> first
      | exact absurd rfl hij
      | trivial
      | exact World.Row.ex hb hg
      | exact World.Row.kept hb hg KBD.out
      | exact World.Row.kept hb hg KDB.out
  · intro i hi j hj hij v W W' hv hg
    simp only [List.mem_cons, List.not_mem_nil, or_false] at hi hj
    rcases hi with rfl | rfl | rfl | rfl | rfl | rfl
    · obtain ⟨G, c, h1, h2, h3⟩ := hv
      refine ⟨G, c, h1, ?_, h3⟩
      rcases hj with rfl | rfl | rfl | rfl | rfl | rfl
      · exact absurd rfl hij
      · exact grown_keep hg h2 (fun e => by have := LBW.out _ e; omega)
      · exact Mix.Ex.obj hg h2
      · exact Mix.Ex.obj hg h2
      · exact Mix.Ex.obj hg h2
      · exact grown_keep hg h2 (fun e => by have := LDW.out _ e; omega)
    · obtain ⟨G, c, h1, h2, h3⟩ := hv
      refine ⟨G, c, h1, ?_, h3⟩
      rcases hj with rfl | rfl | rfl | rfl | rfl | rfl
      · exact h2.ex hg
      · exact absurd rfl hij
      · exact h2.ex hg
      · exact h2.ex hg
      · exact h2.ex hg
      · refine h2.kept hg (.inr fun e => ?_)
        simp only [Value.ownBlock] at e
        rcases h3 with h3 | h3
        · exact HNN.out _ h3 e.symm
        · have := LDW.out _ e.symm; omega
    · exact hv
    · exact hv
    · obtain ⟨G, c, h1, h2, h3⟩ := hv
      refine ⟨G, c, h1, ?_, h3⟩
      rcases hj with rfl | rfl | rfl | rfl | rfl | rfl
      · exact Mix.Ex.obj hg h2
      · exact grown_keep hg h2 (fun e => by have := LBW.out _ e; omega)
      · exact Mix.Ex.obj hg h2
      · exact Mix.Ex.obj hg h2
      · exact absurd rfl hij
      · exact grown_keep hg h2 (fun e => by have := LDW.out _ e; omega)
    · obtain ⟨G, c, h1, h2, h3⟩ := hv
      refine ⟨G, c, h1, ?_, h3⟩
      rcases hj with rfl | rfl | rfl | rfl | rfl | rfl
      · exact h2.ex hg
      · refine h2.kept hg (.inr fun e => ?_)
        simp only [Value.ownBlock] at e
        rcases h3 with h3 | h3
        · exact HNN.out _ e.symm h3
        · have := LBW.out _ e.symm; omega
      · exact h2.ex hg
      · exact h2.ex hg
      · exact h2.ex hg
      · exact absurd rfl hij
  · intro i hi
    simp only [List.mem_cons, List.not_mem_nil, or_false] at hi
    rcases hi with rfl | rfl | rfl | rfl | rfl | rfl
    · intro o ho y W hI hb hd K hK
      simp only [List.getElem?_toArray, List.getElem?_cons_zero, List.getElem?_cons_succ, Option.some.injEq] at ho
      subst ho
      simp only [putU, dstOf, List.getElem?_toArray, List.getElem?_cons_zero, List.getElem?_cons_succ, Option.bind_some, Act.put, List.setIfInBounds_toArray, List.set_cons_zero, List.set_cons_succ] at hK ⊢
      clear hd
      have hlw : w1.heap.size ≤ W.heap.size := hI.2.2.2.2.2.1
      have HI := Lib.hid hI
      clear hI hb
      go_simp
      exact hK _ _ (ALC.out _ _ ((Mix.Ex.refl _).alloc _) HI.out) ((Mix.Ex.refl _).alloc _) ⟨W.heap.size, _, rfl, heap_alloc_new _ _, by omega⟩
    · intro o ho y W hI hb hd K hK
      simp only [List.getElem?_toArray, List.getElem?_cons_zero, List.getElem?_cons_succ, Option.some.injEq] at ho
      subst ho
      simp only [putU, dstOf, List.getElem?_toArray, List.getElem?_cons_zero, List.getElem?_cons_succ, Option.bind_some, Act.put, List.setIfInBounds_toArray, List.set_cons_zero, List.set_cons_succ] at hK ⊢
      have hd4 := hd ⟨4, .data⟩ (by simp) rfl rfl
      obtain ⟨G, c, h1, h2, h3⟩ := hd4
      rw [h1] at hK ⊢
      clear hd h1
      have hlw : w1.heap.size ≤ W.heap.size := hI.2.2.2.2.2.1
      refine wp_append_row (.tmp 9) (.tmp 13) 68 rfl base 71 i0 _ 4 32 Try.underlying68 hi0 hz0 hz1 hz2 rfl (by omega) bI vb L x rfl hb ⟨G, 0, none⟩ c rfl (news_of_cells h2) (bI_one x) (by unfold maxLen; omega) (by omega) (by omega) ?_
      intro g cap w' hr hg ho hlt
      exact hK _ _ (GRW.out _ _ _ hg LBW.out (fun b hb => (FVB.out b hb).1) hI) hg ⟨g, cap, rfl, hr, ho.imp id fun e => by omega⟩
    · intro o ho y W hI hb hd K hK
      simp only [List.getElem?_toArray, List.getElem?_cons_zero, List.getElem?_cons_succ, Option.some.injEq] at ho
      subst ho
      simp only [putU, dstOf, List.getElem?_toArray, List.getElem?_cons_zero, List.getElem?_cons_succ, Option.bind_some, Act.put, List.setIfInBounds_toArray, List.set_cons_zero, List.set_cons_succ] at hK ⊢
      clear hd
      have hcd := (MK.out _ hI).2.1
      have HI := Lib.hid hI
      clear hI hb
      go_simp
      exact hK _ _ HI.out (Mix.Ex.refl _) rfl
    · intro o ho y W hI hb hd K hK
      simp only [List.getElem?_toArray, List.getElem?_cons_zero, List.getElem?_cons_succ, Option.some.injEq] at ho
      subst ho
      simp only [putU, dstOf, List.getElem?_toArray, List.getElem?_cons_zero, List.getElem?_cons_succ, Option.bind_some, Act.put, List.setIfInBounds_toArray, List.set_cons_zero, List.set_cons_succ] at hK ⊢
      clear hd
      have HI := Lib.hid hI
      clear hI hb
      go_simp
      exact hK _ _ HI.out (Mix.Ex.refl _) rfl
    · intro o ho y W hI hb hd K hK
      simp only [List.getElem?_toArray, List.getElem?_cons_zero, List.getElem?_cons_succ, Option.some.injEq] at ho
      subst ho
      simp only [putU, dstOf, List.getElem?_toArray, List.getElem?_cons_zero, List.getElem?_cons_succ, Option.bind_some, Act.put, List.setIfInBounds_toArray, List.set_cons_zero, List.set_cons_succ] at hK ⊢
      have h7 := hd ⟨7, .data⟩ (by simp) rfl rfl
      dsimp only at h7
      rw [h7] at hK ⊢
      clear hd h7
      have hlw : w1.heap.size ≤ W.heap.size := hI.2.2.2.2.2.1
      have HI := Lib.hid hI
      clear hI hb
      go_simp
      exact hK _ _ (ALC.out _ _ ((Mix.Ex.refl _).alloc _) HI.out) ((Mix.Ex.refl _).alloc _) ⟨W.heap.size, _, rfl, heap_alloc_new _ _, by omega⟩
    · intro o ho y W hI hb hd K hK
      simp only [List.getElem?_toArray, List.getElem?_cons_zero, List.getElem?_cons_succ, Option.some.injEq] at ho
      subst ho
      simp only [putU, dstOf, List.getElem?_toArray, List.getElem?_cons_zero, List.getElem?_cons_succ, Option.bind_some, Act.put, List.setIfInBounds_toArray, List.set_cons_zero, List.set_cons_succ] at hK ⊢
      have hd4 := hd ⟨8, .data⟩ (by simp) rfl rfl
      obtain ⟨G, c, h1, h2, h3⟩ := hd4
      have h6 := hd ⟨6, .data⟩ (by simp) rfl rfl
      dsimp only at h6
      rw [h1, h6] at hK ⊢
      clear hd h1 h6
      have hlw : w1.heap.size ≤ W.heap.size := hI.2.2.2.2.2.1
      refine wp_append_row (.tmp 15) (.tmp 17) 43 rfl base 3 j0 _ 1 8 Try.underlying43 hj0 hy0 hy1 hy2 rfl (by omega) dI vd L x rfl hb ⟨G, 0, none⟩ c rfl (news_of_cells h2) (dI_one x) (by unfold maxLen; omega) (by omega) (by omega) ?_
      intro g cap w' hr hg ho hlt
      exact hK _ _ (GRW.out _ _ _ hg LDW.out (fun b hb => (FVB.out b hb).2) hI) hg ⟨g, cap, rfl, hr, ho.imp id fun e => by omega⟩
  · intro y W hI hA
    obtain ⟨gb, cb, e5, r5, o5⟩ := hA 5 (by simp)
    obtain ⟨gd, cd, e9, r9, o9⟩ := hA 9 (by simp)
    clear hA
    simp only [putU, dstOf, List.getElem?_toArray, List.getElem?_cons_zero, List.getElem?_cons_succ, Option.bind_some, Act.put, List.setIfInBounds_toArray, List.set_cons_zero, List.set_cons_succ]
    rw [e5, e9]
    generalize y 4 = y4
    generalize y 8 = y8
    generalize y 6 = y6
    generalize y 7 = y7
    clear e5 e9 y
    obtain ⟨a1, a2, a3, a4, a5, a6, a7⟩ := hI
    have hKB : ∀ b, Frn w pb pd b → gb ≠ b ∧ gd ≠ b := fun b hb => by
      have hbl := hb.lt
      refine ⟨fun e => ?_, fun e => ?_⟩
      · rcases o5 with o5 | o5
        · exact (FVB.out b hb).1 (by rw [o5, e])
        · omega
      · rcases o9 with o9 | o9
        · exact (FVB.out b hb).2 (by rw [o9, e])
        · omega
    have HKB := Lib.hid hKB
    have HA7 := Lib.hid a7
    clear hKB a7
    have hgb := (r5.lt gb rfl)
    have hgd := (r9.lt gd rfl)
    have s1 : W.cell? ⟨pb, 0, none⟩ = some vb := by rw [cellOf a2]; rfl
    have s2 : W.frozen? ⟨pb, 0, none⟩ = false := frzOf a2 0
    have b2 := setCell_obj a2 0 (.slice (some ⟨gb, 0, none⟩) (L.length + 1) cb)
    have b3 : (W.setCell ⟨pb, 0, none⟩ (.slice (some ⟨gb, 0, none⟩) (L.length + 1) cb)).heap[pd]? = _ := (setCell_ne 0 (Ne.symm hne) _ none).trans a3
    have r5 := r5.of_block (w' := W.setCell ⟨pb, 0, none⟩ (.slice (some ⟨gb, 0, none⟩) (L.length + 1) cb)) (fun k hk => by simp only [Value.ownBlock, Option.some.injEq] at hk; subst hk; exact setCell_ne _ (by omega) _ _)
    have r9 := r9.of_block (w' := W.setCell ⟨pb, 0, none⟩ (.slice (some ⟨gb, 0, none⟩) (L.length + 1) cb)) (fun k hk => by simp only [Value.ownBlock, Option.some.injEq] at hk; subst hk; exact setCell_ne _ (by omega) _ _)
    have x2 := a1.setCell (p := ⟨pb, 0, none⟩) h0 (.slice (some ⟨gb, 0, none⟩) (L.length + 1) cb)
    have z2 : (W.setCell ⟨pb, 0, none⟩ (.slice (some ⟨gb, 0, none⟩) (L.length + 1) cb)).heap.size = W.heap.size := by simp [World.setCell]
    simp only [List.setIfInBounds_toArray, List.set_cons_zero] at b2
    have y2 : Hid (∀ b, Frn w pb pd b → (W.setCell ⟨pb, 0, none⟩ (.slice (some ⟨gb, 0, none⟩) (L.length + 1) cb)).heap[b]? = w.heap[b]?) := Lib.hid fun b hb => (setCell_ne 0 hb.nb _ none).trans (HA7.out b hb)
    (refine wpAnyK_one (i := 10) (o := ?_) ?_ ?_ ?_ (fun K hK => ?_); rotate_left 1; (focus kernel_rfl); (focus (simp only [List.getElem?_toArray, List.getElem?_cons_zero, List.getElem?_cons_succ]; rfl)); (focus rfl))
    go_simp
    generalize W.setCell ⟨pb, 0, none⟩ (.slice (some ⟨gb, 0, none⟩) (L.length + 1) cb) = W2 at b2 b3 r5 r9 x2 z2 y2 hK ⊢
    refine hK _ _ (fun h => absurd h (by decide +kernel)) ?_
    clear hK K s1 s2
    have s1 : W2.cell? ⟨pd, 0, none⟩ = some vd := by rw [cellOf b3]; rfl
    have s2 : W2.frozen? ⟨pd, 0, none⟩ = false := frzOf b3 0
    have c3 := setCell_obj b3 0 (.slice (some ⟨gd, 0, none⟩) (L.length + 1) cd)
    have c2 : (W2.setCell ⟨pd, 0, none⟩ (.slice (some ⟨gd, 0, none⟩) (L.length + 1) cd)).heap[pb]? = _ := (setCell_ne 0 hne _ none).trans b2
    have r5 := r5.of_block (w' := W2.setCell ⟨pd, 0, none⟩ (.slice (some ⟨gd, 0, none⟩) (L.length + 1) cd)) (fun k hk => by simp only [Value.ownBlock, Option.some.injEq] at hk; subst hk; exact setCell_ne _ (by omega) _ _)
    have r9 := r9.of_block (w' := W2.setCell ⟨pd, 0, none⟩ (.slice (some ⟨gd, 0, none⟩) (L.length + 1) cd)) (fun k hk => by simp only [Value.ownBlock, Option.some.injEq] at hk; subst hk; exact setCell_ne _ (by omega) _ _)
    have x3 := x2.setCell (p := ⟨pd, 0, none⟩) h1 (.slice (some ⟨gd, 0, none⟩) (L.length + 1) cd)
    have z3 : (W2.setCell ⟨pd, 0, none⟩ (.slice (some ⟨gd, 0, none⟩) (L.length + 1) cd)).heap.size = W2.heap.size := by simp [World.setCell]
    simp only [List.setIfInBounds_toArray, List.set_cons_zero] at c3
    have y3 : Hid (∀ b, Frn w pb pd b → (W2.setCell ⟨pd, 0, none⟩ (.slice (some ⟨gd, 0, none⟩) (L.length + 1) cd)).heap[b]? = w.heap[b]?) := Lib.hid fun b hb => (setCell_ne 0 hb.nd _ none).trans (y2.out b hb)
    (refine wpAnyK_one (i := 11) (o := ?_) ?_ ?_ ?_ (fun K hK => ?_); rotate_left 1; (focus kernel_rfl); (focus (simp only [List.getElem?_toArray, List.getElem?_cons_zero, List.getElem?_cons_succ]; rfl)); (focus rfl))
    go_simp
    generalize W2.setCell ⟨pd, 0, none⟩ (.slice (some ⟨gd, 0, none⟩) (L.length + 1) cd) = W3 at c2 c3 r5 r9 x3 z3 y3 hK ⊢
    refine hK _ _ (fun h => absurd h (by decide +kernel)) ?_
    clear hK K s1 s2
    refine wpAnyK_done (by kernel_rfl) ?_ _
    have hfin : Coll W3 base pb pd (L ++ [x]) := ⟨hne, lb, ld, by omega, _, _, c2, c3, r5, r9⟩
    have hkp : Kp w W3 pb pd := fun b hb => by
      obtain ⟨q1, q2⟩ := HKB.out b hb
      have hbl := hb.lt
      refine ⟨y3.out b hb, hb.nb, hb.nd, by omega, fun v hv => ?_, fun v hv => ?_⟩
      · rw [c2] at hv
        simp only [Option.some.injEq, Obj.cells.injEq, Array.mk.injEq, List.cons.injEq, and_true] at hv
        rw [← hv]
        simp only [Value.ownBlock, ne_eq, Option.some.injEq]
        exact q1
      · rw [c3] at hv
        simp only [Option.some.injEq, Obj.cells.injEq, Array.mk.injEq, List.cons.injEq, and_true] at hv
        rw [← hv]
        simp only [Value.ownBlock, ne_eq, Option.some.injEq]
        exact q2
    have HF := Lib.hid hfin
    have HX := Lib.hid x3
    have HKP := Lib.hid hkp
    clear hkp
    clear hfin x3 c2 c3 r5 r9 b2 b3 a1 a2 a3 a4 a5 x2
    go_wp2_with fail
    go_ret
    exact ⟨rfl, HF.out, HX.out, HKP.out⟩
end Go.Proofs.Ytboeldlilkeihaa
