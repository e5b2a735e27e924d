/- The contract of 'splitNodeLargestAxisEdgeSnap': a node's entries are parted, what goes right lies in a new node. -/
import Derived.Test.YtenokcfpmfoekaaSplitA
import Derived.Test.YtenokcfpmfoekaaNew
import Derived.Test.YtenokcfpmfoekaaRowM
import Derived.Test.YtenokcfpmfoekaaMp
import Derived.Deep.DeepCutAuto
set_option linter.unusedSimpArgs false
set_option linter.unusedVariables false
namespace Go.Proofs.Ytenokcfpmfoekaa
open Go.RowKit Go.Bx
theorem put4_self {w : World} {p q p' q' : Nat} {ic ic' : Int} {b : Bool} {n m : Nat} {L M : Ent} (h1 : NodeAt w p ⟨ic, b, n, q, fun i => (L i).1⟩) (h2 : ListAt w q (elT b) (fE L)) (h3 : NodeAt w p' ⟨ic', b, m, q', fun i => (M i).1⟩) (h4 : ListAt w q' (elT b) (fE M)) :
    w.put4 p q p' q' ic ic' b (elT b) n L m M = w := by
  unfold World.put4
  rw [h1.self, h3.self, h2.self, h4.self]
/-- How many entries a node has, off the world. -/
def cntAt (w : World) (p : Nat) : Nat := match w.cell? ⟨p, 2, none⟩ with
  | some (.int _ n) => n.toNat
  | _ => 0
theorem cntAt_node {w : World} {p : Nat} {N : Nd} (h : NodeAt w p N) : cntAt w p = N.cnt.toNat := by unfold cntAt; rw [h.cell2]
section
variable {w : World} {t p q p' q' : Nat} {ic ic' : Int} {b : Bool} {n m : Nat} {L M : Ent}
theorem put4_n1 (hA : Apart4 w t p q p' q') : NodeAt (w.put4 p q p' q' ic ic' b (elT b) n L m M) p ⟨ic, b, n, q, fun i => (L i).1⟩ :=
  (((NodeAt.put _ hA.lp).putN_other hA.h2.symm).putL_other hA.h1.symm).putL_other hA.h3.symm
theorem put4_n2 (hA : Apart4 w t p q p' q') : NodeAt (w.put4 p q p' q' ic ic' b (elT b) n L m M) p' ⟨ic', b, m, q', fun i => (M i).1⟩ :=
  ((NodeAt.put _ (by simp; exact hA.lp')).putL_other hA.h4).putL_other hA.h6.symm
theorem put4_l1 (hA : Apart4 w t p q p' q') : ListAt (w.put4 p q p' q' ic ic' b (elT b) n L m M) q (elT b) (fE L) :=
  (ListAt.put _ _ (by simp; exact hA.lq)).putL_other hA.h5.symm
theorem put4_l2 (hA : Apart4 w t p q p' q') : ListAt (w.put4 p q p' q' ic ic' b (elT b) n L m M) q' (elT b) (fE M) :=
  ListAt.put _ _ (by simp; exact hA.lq')
theorem put4_cell {x : Addr} (h1 : x.block ≠ p) (h2 : x.block ≠ q) (h3 : x.block ≠ p') (h4 : x.block ≠ q') : (w.put4 p q p' q' ic ic' b (elT b) n L m M).cell? x = w.cell? x := by
  obtain ⟨k, o, s⟩ := x
  unfold World.put4
  rw [World.cell_putL_other _ _ _ _ _ _ _ h4, World.cell_putL_other _ _ _ _ _ _ _ h2, World.cell_putN_other _ _ _ _ _ _ h3, World.cell_putN_other _ _ _ _ _ _ h1]
theorem put4_chg : Chg (fun k => k = p ∨ k = q ∨ k = p' ∨ k = q') w (w.put4 p q p' q' ic ic' b (elT b) n L m M) := by
  unfold World.put4
  exact ((((Chg.refl _ _).putN (.inl (.inl rfl)) _).putN (.inl (.inr (.inr (.inl rfl)))) _).putL (.inl (.inr (.inl rfl))) _ _).putL (.inl (.inr (.inr (.inr rfl)))) _ _
/-- The left node sorted, say. -/
theorem put4_e1 (hA : Apart4 w t p q p' q') (L' : Ent) : (w.put4 p q p' q' ic ic' b (elT b) n L m M).putE p ⟨ic, b, n, q, fun i => (L i).1⟩ (elT b) L' = w.put4 p q p' q' ic ic' b (elT b) n L' m M := by
  unfold World.putE World.put4
  dsimp only [ndE]
  rw [World.putN_putL _ _ _ _ _ _ hA.h3.symm, World.putN_putL _ _ _ _ _ _ hA.h1.symm, World.putN_putN3 _ _ _ _ _ hA.h2.symm, World.putL_putL3 _ _ _ _ _ _ hA.h5.symm]
theorem put4_e2 (hA : Apart4 w t p q p' q') (M' : Ent) : (w.put4 p q p' q' ic ic' b (elT b) n L m M).putE p' ⟨ic', b, m, q', fun i => (M i).1⟩ (elT b) M' = w.put4 p q p' q' ic ic' b (elT b) n L m M' := by
  unfold World.putE World.put4
  dsimp only [ndE]
  rw [World.putN_putL _ _ _ _ _ _ hA.h6.symm, World.putN_putL _ _ _ _ _ _ hA.h4, World.putN_putN, World.putL_putL]
end
theorem Apart4.flip {w : World} {t p q p' q' : Nat} (h : Apart4 w t p q p' q') : Apart4 w t p' q' p q :=
  ⟨h.tp', h.tq', h.tp, h.tq, h.lp', h.lq', h.lp, h.lq, h.h6, h.h2.symm, h.h4.symm, h.h3.symm, h.h5.symm, h.h1⟩
theorem put4_flip {w : World} {t p q p' q' : Nat} (hA : Apart4 w t p q p' q') (ic ic' : Int) (b : Bool) (T : TypeId) (n : Nat) (L : Ent) (m : Nat) (M : Ent) :
    w.put4 p' q' p q ic' ic b T m M n L = w.put4 p q p' q' ic ic' b T n L m M := by
  unfold World.put4 World.putN World.putL
  dsimp only
  rw [Array.setIfInBounds_comm _ _ hA.h5.symm, Array.setIfInBounds_comm _ _ hA.h2.symm]
theorem Fit.upd {b : Bool} {E : Ent} (h : Fit b (fE E)) {F : Ent} (hF : Fit b (fE F)) (c i : Nat) : Fit b (fE (Bx.upd E c (F i))) := by
  cases b
  · obtain ⟨g, hg⟩ := h
    obtain ⟨g', hg'⟩ := hF
    exact ⟨Bx.upd g c (g' i), by
      funext k
      have e1 := congrFun hg k
      have e2 := congrFun hg' i
      simp only [fE, Bx.upd] at *
      split <;> simp_all⟩
  · obtain ⟨g, hg⟩ := h
    obtain ⟨g', hg'⟩ := hF
    exact ⟨Bx.upd g c (g' i), by
      funext k
      have e1 := congrFun hg k
      have e2 := congrFun hg' i
      simp only [fE, Bx.upd] at *
      split <;> simp_all⟩
theorem Fit.set {b : Bool} {E : Ent} (h : Fit b (fE E)) (c : Nat) (e : R × Value) (he : Fit b (fun _ => e.2)) : Fit b (fE (Bx.upd E c e)) := Fit.upd (F := fun _ => e) h he c 0
theorem Fit.zero (b : Bool) : Fit b (fun _ => zE b) := by
  cases b
  · exact ⟨fun _ => none, rfl⟩
  · exact ⟨fun _ => 0, rfl⟩
theorem Fit.at' {b : Bool} {E : Ent} (h : Fit b (fE E)) (i : Nat) : Fit b (fun _ => (E i).2) := by
  cases b
  · obtain ⟨g, hg⟩ := h; exact ⟨fun _ => g i, funext fun _ => congrFun hg i⟩
  · obtain ⟨g, hg⟩ := h; exact ⟨fun _ => g i, funext fun _ => congrFun hg i⟩
theorem Fit.mvL {b : Bool} {E : Ent} (h : Fit b (fE E)) (n i : Nat) : Fit b (fE (Bx.mvL E n i (zE b))) := by
  unfold Bx.mvL
  exact Fit.set (Fit.upd h h i n) n _ (Fit.zero b)
theorem rcell_bound {r : R} (h : r.small) (j : Nat) : -32768 ≤ rcell r j ∧ rcell r j ≤ 32767 := by
  obtain ⟨h1, h2, h3, h4⟩ := h
  match j with
  | 0 => exact h1
  | 1 => exact h2
  | 2 => exact h3
  | _ + 3 => exact h4
theorem rect_rcell {w : World} {b o : Nat} {r : R} (h : RectAt w b o r) {j : Nat} (hj : j < 4) : w.cell? ⟨b, o + j, none⟩ = some (.int .i64 (rcell r j)) := by
  obtain ⟨h0, h1, h2, h3⟩ := h
  match j, hj with
  | 0, _ => exact h0
  | 1, _ => exact h1
  | 2, _ => exact h2
  | 3, _ => exact h3

/-- What a split leaves behind. -/
def SplitPost (w : World) (p q : Nat) (ic icL : Int) (b : Bool) (r : R) (n : Nat) (E : Ent) (e : Ending) (w' : World) : Prop :=
  ∃ p' q', e = .returned (.pointer (some ⟨p', 0, none⟩)) ∧ w.heap.size ≤ p' ∧ w.heap.size ≤ q' ∧ p' ≠ q' ∧
    NodeAt w' p ⟨icL, b, (splitF (zE b) r n E).1, q, fun i => ((splitF (zE b) r n E).2.1 i).1⟩ ∧ ListAt w' q (elT b) (fE (splitF (zE b) r n E).2.1) ∧
    NodeAt w' p' ⟨ic, b, (splitF (zE b) r n E).2.2.1, q', fun i => ((splitF (zE b) r n E).2.2.2 i).1⟩ ∧ ListAt w' q' (elT b) (fE (splitF (zE b) r n E).2.2.2) ∧
    Fit b (fE (splitF (zE b) r n E).2.1) ∧ Fit b (fE (splitF (zE b) r n E).2.2.2) ∧ Chg (fun k => k = p ∨ k = q) w w'
set_option maxRecDepth 100000 in
set_option maxHeartbeats 12800000 in
theorem splitSnap_c (w : World) (t p q : Nat) (ic icL : Int) (b : Bool) (n : Nat) (E : Ent) (r : R) (ht0 : w.cell? ⟨t, 0, none⟩ = some (.int .u64 ic)) (ht7 : w.cell? ⟨t, 7, none⟩ = some (.int .i64 0))
    (hN : NodeAt w p ⟨icL, b, n, q, fun i => (E i).1⟩) (hL : ListAt w q (elT b) (fE E)) (hf : Fit b (fE E)) (hpq : p ≠ q) (htp : t ≠ p) (htq : t ≠ q) (h2 : 2 ≤ n) (h64 : n ≤ 64) (hr : r.small) (hs : ∀ i, i < n → (E i).1.small) :
    Calls Try.prog 68 #[.pointer (some ⟨t, 0, none⟩), .agg #[.int .i64 r.x0, .int .i64 r.y0, .int .i64 r.x1, .int .i64 r.y1], .pointer (some ⟨p, 0, none⟩)] w fun e w' => SplitPost w p q ic icL b r n E e w' := by
  have htl := World.block_lt_of_cell? w _ ht0
  dsimp only at htl
  go_enter Try.func68, Try.ntmps68
  go_wp2_with fail
  have hm := rectAt_alloc w r 67 rfl
  have hx0 := (Mix.Ex.refl w).alloc (.cells (boxV r).toArray 67)
  refine (largestAxis_c _ r hr).mono ?_
  rintro e w0 ⟨rfl, hx⟩
  have hm := hm.of_ex hx
  have hx0 := hx0.trans hx
  have hN0 := hN.ex hx0
  have hL0 := hL.ex hx0
  have ht0' := hx0.cell ht0
  have ht7' := hx0.cell ht7
  clear hx
  have hpB := hN.lt
  have hqB := hL.lt
  generalize hBB : w.heap.size = B at hm hpB hqB htl
  have HB := Lib.hid hBB
  clear hBB
  go_wp2_with fail
  refine (leaf_c _ _ _ hN0).mono ?_
  rintro e w1 ⟨rfl, rfl⟩
  go_wp2_with fail
  have hBlt := hm.lt
  refine (newNode_c _ t ic b ht0').mono ?_
  rintro e w1 ⟨p', q', rfl, hN', hL', hpq', hp', hq', hx1⟩
  have hN1 := hN0.ex hx1
  have hL1 := hL0.ex hx1
  have hm := hm.of_ex hx1
  have ht7' := hx1.cell ht7'
  have hs0 := hx0.below.size
  have hBp : B ≠ p' := by omega
  have hBq : B ≠ q' := by omega
  have hA : Apart4 w1 t p q p' q' := by
    have := HB.out
    exact ⟨htp, htq, by omega, by omega, hN1.lt, hL1.lt, hN'.lt, hL'.lt, hpq, by omega, by omega, by omega, by omega, hpq'⟩
  have hw1 : w1.put4 p q p' q' icL ic b (elT b) n E 0 (fun _ => (R0, zE b)) = w1 := put4_self hN1 hL1 (by exact hN') (by cases b <;> exact hL')
  have hx := hx0.trans hx1
  clear hN' hL' hN1 hL1 hN0 hL0 ht0' hx0 hx1
  have hS := hm.lt
  obtain ⟨S, hSS⟩ : ∃ S, spl (zE b) r.largestAxis r n 0 n E 0 (fun _ => (R0, zE b)) = S := ⟨_, rfl⟩
  have HS := Lib.hid hSS
  have hax : r.largestAxis ≤ 1 := by unfold R.largestAxis; split <;> omega
  have ra := rect_rcell hm (j := r.largestAxis) (by omega)
  have rb := rect_rcell hm (j := 2 + r.largestAxis) (by omega)
  have ba := rcell_bound hr r.largestAxis
  have bb := rcell_bound hr (2 + r.largestAxis)
  rw [show 0 + r.largestAxis = r.largestAxis by omega] at ra
  rw [show 0 + (2 + r.largestAxis) = 2 + r.largestAxis by omega] at rb
  generalize hra : rcell r r.largestAxis = va at ra ba
  generalize hrb : rcell r (2 + r.largestAxis) = vb at rb bb
  have HRA := Lib.hid hra
  have HRB := Lib.hid hrb
  clear hSS hra hrb
  generalize hAX : r.largestAxis = a at *
  have HAX := Lib.hid hAX
  clear hAX
  go_wp2_with fail
  go_loopw [8] (fun i wr => ∃ (k f nl m : Nat) (L M : Ent) (d : Nat), k + f = nl ∧ nl + m = n ∧ i = .int .i64 k ∧ spl (zE b) a r f k nl L m M = S ∧ Fit b (fE L) ∧ Fit b (fE M) ∧ (∀ j, j < nl → (L j).1.small) ∧
    wr = (w1.put4 p q p' q' icL ic b (elT b) nl L m M).drewN d) (fun i wr => cntAt wr p - (intOf i).toNat)
  case atStart => exact ⟨0, n, n, 0, E, _, 0, by omega, by omega, rfl, HS.out, hf, Fit.zero b, hs, hw1.symm⟩
  case round =>
    obtain ⟨k, f, nl, m, L, M, d, hkf, hnm, rfl, hspl, hfL, hfM, hsL, rfl⟩ := hrel
    obtain ⟨W, hW⟩ : ∃ W, w1.put4 p q p' q' icL ic b (elT b) nl L m M = W := ⟨_, rfl⟩
    have n1 : NodeAt W p ⟨icL, b, nl, q, fun i => (L i).1⟩ := by rw [← hW]; exact put4_n1 hA
    have wa : W.cell? ⟨B, a, none⟩ = some (.int .i64 va) := by rw [← hW, put4_cell (by dsimp only; omega) (by dsimp only; omega) hBp hBq]; exact ra
    have wb : W.cell? ⟨B, 2 + a, none⟩ = some (.int .i64 vb) := by rw [← hW, put4_cell (by dsimp only; omega) (by dsimp only; omega) hBp hBq]; exact rb
    have cN := n1.cell2
    have hcn := cntAt_node n1
    dsimp only at cN hcn
    simp only [Int.toNat_natCast] at hcn
    have HCN := Lib.hid hcn
    have HSP := Lib.hid hspl
    clear hspl hcn
    by_cases hlt : k < nl
    case neg =>
      have hf0 : f = 0 := by omega
      subst hf0
      have hkl : k = nl := by omega
      subst hkl
      have hSS := HSP.out
      rw [spl] at hSS
      subst hSS
      rw [hW]
      clear wa wb ra rb
      go_upto_if 68 with (fail)
      have hrel2 : ∃ (n2 m2 : Nat) (L2 M2 : Ent), evenUp (zE b) a (k, L, m, M) = (n2, L2, m2, M2) := ⟨_, _, _, _, rfl⟩
      obtain ⟨n2, m2, L2, M2, hev⟩ := hrel2
      have HEV := Lib.hid hev
      clear hev
      go_cut [] (fun wx => n2 + m2 = n ∧ Fit b (fE L2) ∧ Fit b (fE M2) ∧ ∃ d, wx = (w1.put4 p q p' q' icL ic b (elT b) n2 L2 m2 M2).drewN d)
      case first =>
        have n1 : NodeAt W p ⟨icL, b, k, q, fun i => (L i).1⟩ := by rw [← hW]; exact put4_n1 hA
        have n2' : NodeAt W p' ⟨ic, b, m, q', fun i => (M i).1⟩ := by rw [← hW]; exact put4_n2 hA
        have cN := n1.cell2
        have cM := n2'.cell2
        dsimp only at cN cM
        by_cases hk2 : k < 2
        · have hQ : ∀ d, Calls Try.prog 61 #[.pointer (some ⟨p', 0, none⟩), .int .i64 a, .bool true, .bool false] (W.drewN d) fun e w' => e = .returned (.tuple #[]) ∧ ∃ d, w' = (w1.put4 p q p' q' icL ic b (elT b) k L m (qs (keyK a true false) m M 0 m)).drewN d := fun d => by
            have h := sortByAxis_c (w1.put4 p q p' q' icL ic b (elT b) k L m M) p' ⟨ic, b, m, q', fun i => (M i).1⟩ a true false hax (put4_n2 hA).lt (put4_l2 hA).lt hA.h6 m M d rfl (by omega) hfM
            dsimp only at h
            rw [put4_e2 hA, put4_e2 hA, hW] at h
            exact h
          have hfQ := Fit.qs (keyK a true false) m M 0 m hfM
          obtain ⟨T, hT⟩ : ∃ T, fillUp (zE b) 2 m (qs (keyK a true false) m M 0 m) k L = T := ⟨_, rfl⟩
          have hev2 : (T.2.2.1, T.2.2.2, T.1, T.2.1) = (n2, L2, m2, M2) := by
            rw [← HEV.out]; unfold evenUp; rw [if_pos hk2]; dsimp only; rw [hT]
          have HT := Lib.hid hT
          have HEV2 := Lib.hid hev2
          clear hT hev2
          generalize qs (keyK a true false) m M 0 m = Q at *
          go_wp2_with fail
          refine (hQ _).mono ?_
          rintro e w2 ⟨rfl, d2, rfl⟩
          clear hQ cN cM n1 n2'
          go_wp2_with fail
          go_loopw [72] (fun _ wr => ∃ (g nX mY : Nat) (X Y : Ent) (d : Nat), fillUp (zE b) g nX X mY Y = T ∧ 2 ≤ g + mY ∧ nX + mY = n ∧ Fit b (fE X) ∧ Fit b (fE Y) ∧ wr = (w1.put4 p q p' q' icL ic b (elT b) mY Y nX X).drewN d) (fun _ wr => 2 - cntAt wr p)
          case atStart => exact ⟨2, m, k, Q, L, d2, HT.out, by omega, by omega, hfQ, hfL, rfl⟩
          case round =>
            obtain ⟨g, nX, mY, X, Y, d3, hfill, hg2, hnn, hfX, hfY, rfl⟩ := hrel
            have HF := Lib.hid hfill
            clear hfill
            obtain ⟨V, hV⟩ : ∃ V, w1.put4 p q p' q' icL ic b (elT b) mY Y nX X = V := ⟨_, rfl⟩
            have n1 : NodeAt V p ⟨icL, b, mY, q, fun i => (Y i).1⟩ := by rw [← hV]; exact put4_n1 hA
            have n2' : NodeAt V p' ⟨ic, b, nX, q', fun i => (X i).1⟩ := by rw [← hV]; exact put4_n2 hA
            have cN := n1.cell2
            have cM := n2'.cell2
            dsimp only at cN cM
            by_cases hY : mY < 2
            · obtain ⟨x, hx1⟩ : ∃ x, nX = x + 1 := ⟨nX - 1, by omega⟩
              obtain ⟨g', hg'⟩ : ∃ g', g = g' + 1 := ⟨g - 1, by omega⟩
              have i1 : (nX : Int) - 1 = x := by omega
              have hstep := HF.out
              rw [hg', fillUp, if_pos hY, hx1, Nat.add_sub_cancel] at hstep
              have HMV := fun d => move_c w1 t p' q' p q ic icL b x X mY Y x d ht7' hA.flip hfX hfY (Nat.le_refl _) (by omega) (by omega)
              rw [put4_flip hA, put4_flip hA, ← hx1, hV] at HMV
              have hf1 : Fit b (fE (Bx.mvL X x x (zE b))) := Fit.mvL hfX x x
              have hf2 : Fit b (fE (Bx.upd Y mY (X x))) := Fit.upd hfY hfX mY x
              have hcn2 : ∀ d, cntAt ((w1.put4 p q p' q' icL ic b (elT b) (mY + 1) (Bx.upd Y mY (X x)) x (Bx.mvL X x x (zE b))).drewN d) p = mY + 1 := fun d => by
                have h := cntAt_node (put4_n1 (ic := icL) (ic' := ic) (b := b) (n := mY + 1) (m := x) (L := Bx.upd Y mY (X x)) (M := Bx.mvL X x x (zE b)) hA)
                simp only [Int.toNat_natCast] at h
                exact h
              have hcn1 : ∀ d, cntAt (V.drewN d) p = mY := fun d => by
                have h := cntAt_node n1
                simp only [Int.toNat_natCast] at h
                exact h
              have HX1 := Lib.hid hx1
              have HG := Lib.hid hg'
              have HSTEP := Lib.hid hstep
              have HC1 := Lib.hid hcn1
              have HC2 := Lib.hid hcn2
              clear hx1 hg' hstep hcn1 hcn2
              generalize Bx.mvL X x x (zE b) = X2 at *
              generalize Bx.upd Y mY (X x) = Y2 at *
              rw [hV]
              clear hV n1 n2'
              go_wp2_with fail
              refine (HMV _).mono ?_
              rintro e w3 ⟨rfl, d4, rfl⟩
              clear HMV cN cM
              go_wp2_with fail
              go_roundw
              case rel => exact ⟨g', x, mY + 1, X2, Y2, _, HSTEP.out, by have := HG.out; omega, by have := HX1.out; omega, hf1, hf2, rfl⟩
              case measure =>
                simp [HC1.out, HC2.out]
                omega
            · have hT1 : (nX, X, mY, Y) = T := by
                rw [← HF.out]
                cases g with
                | zero => rfl
                | succ g => rw [fillUp, if_neg hY]
              have hfin := HEV2.out
              rw [← hT1, Prod.mk.injEq, Prod.mk.injEq, Prod.mk.injEq] at hfin
              dsimp only at hfin
              obtain ⟨f1, f2, f3, f4⟩ := hfin
              have HF1 := Lib.hid f1
              have HF2 := Lib.hid f2
              have HF3 := Lib.hid f3
              have HF4 := Lib.hid f4
              clear hT1 f1 f2 f3 f4
              rw [hV]
              go_wp2_with fail
              go_meet
              case rel =>
                rw [← hV, ← HF1.out, ← HF2.out, ← HF3.out, ← HF4.out]
                exact ⟨by omega, hfY, hfX, _, rfl⟩
        · have hev1 : (if m < 2 then fillUp (zE b) 2 k (qs (keyK a true true) k L 0 k) m M else (k, L, m, M)) = (n2, L2, m2, M2) := by
            rw [← HEV.out]; unfold evenUp; rw [if_neg hk2]
          by_cases hm2 : m < 2
          · have hQ : ∀ d, Calls Try.prog 61 #[.pointer (some ⟨p, 0, none⟩), .int .i64 a, .bool true, .bool true] (W.drewN d) fun e w' => e = .returned (.tuple #[]) ∧ ∃ d, w' = (w1.put4 p q p' q' icL ic b (elT b) k (qs (keyK a true true) k L 0 k) m M).drewN d := fun d => by
              have h := sortByAxis_c (w1.put4 p q p' q' icL ic b (elT b) k L m M) p ⟨icL, b, k, q, fun i => (L i).1⟩ a true true hax (put4_n1 hA).lt (put4_l1 hA).lt hA.h1 k L d rfl (by omega) hfL
              dsimp only at h
              rw [put4_e1 hA, put4_e1 hA, hW] at h
              exact h
            have hfQ := Fit.qs (keyK a true true) k L 0 k hfL
            rw [if_pos hm2] at hev1
            have HEV2 := Lib.hid hev1
            clear hev1
            generalize qs (keyK a true true) k L 0 k = Q at *
            go_wp2_with fail
            refine (hQ _).mono ?_
            rintro e w2 ⟨rfl, d2, rfl⟩
            clear hQ cN cM n1 n2'
            go_wp2_with fail
            go_loopw [95] (fun _ wr => ∃ (g nX mY : Nat) (X Y : Ent) (d : Nat), fillUp (zE b) g nX X mY Y = (n2, L2, m2, M2) ∧ 2 ≤ g + mY ∧ nX + mY = n ∧ Fit b (fE X) ∧ Fit b (fE Y) ∧ wr = (w1.put4 p q p' q' icL ic b (elT b) nX X mY Y).drewN d) (fun _ wr => 2 - cntAt wr p')
            case atStart => exact ⟨2, k, m, Q, M, d2, HEV2.out, by omega, by omega, hfQ, hfM, rfl⟩
            case round =>
              obtain ⟨g, nX, mY, X, Y, d3, hfill, hg2, hnn, hfX, hfY, rfl⟩ := hrel
              have HF := Lib.hid hfill
              clear hfill
              obtain ⟨V, hV⟩ : ∃ V, w1.put4 p q p' q' icL ic b (elT b) nX X mY Y = V := ⟨_, rfl⟩
              have n1 : NodeAt V p ⟨icL, b, nX, q, fun i => (X i).1⟩ := by rw [← hV]; exact put4_n1 hA
              have n2' : NodeAt V p' ⟨ic, b, mY, q', fun i => (Y i).1⟩ := by rw [← hV]; exact put4_n2 hA
              have cN := n1.cell2
              have cM := n2'.cell2
              dsimp only at cN cM
              by_cases hY : mY < 2
              · obtain ⟨x, hx1⟩ : ∃ x, nX = x + 1 := ⟨nX - 1, by omega⟩
                obtain ⟨g', hg'⟩ : ∃ g', g = g' + 1 := ⟨g - 1, by omega⟩
                have i1 : (nX : Int) - 1 = x := by omega
                have hstep := HF.out
                rw [hg', fillUp, if_pos hY, hx1, Nat.add_sub_cancel] at hstep
                have HMV := fun d => move_c w1 t p q p' q' icL ic b x X mY Y x d ht7' hA hfX hfY (Nat.le_refl _) (by omega) (by omega)
                rw [← hx1, hV] at HMV
                have hf1 : Fit b (fE (Bx.mvL X x x (zE b))) := Fit.mvL hfX x x
                have hf2 : Fit b (fE (Bx.upd Y mY (X x))) := Fit.upd hfY hfX mY x
                have hcn2 : ∀ d, cntAt ((w1.put4 p q p' q' icL ic b (elT b) x (Bx.mvL X x x (zE b)) (mY + 1) (Bx.upd Y mY (X x))).drewN d) p' = mY + 1 := fun d => by
                  have h := cntAt_node (put4_n2 (ic := icL) (ic' := ic) (b := b) (n := x) (m := mY + 1) (L := Bx.mvL X x x (zE b)) (M := Bx.upd Y mY (X x)) hA)
                  simp only [Int.toNat_natCast] at h
                  exact h
                have hcn1 : ∀ d, cntAt (V.drewN d) p' = mY := fun d => by
                  have h := cntAt_node n2'
                  simp only [Int.toNat_natCast] at h
                  exact h
                have HX1 := Lib.hid hx1
                have HG := Lib.hid hg'
                have HSTEP := Lib.hid hstep
                have HC1 := Lib.hid hcn1
                have HC2 := Lib.hid hcn2
                clear hx1 hg' hstep hcn1 hcn2
                generalize Bx.mvL X x x (zE b) = X2 at *
                generalize Bx.upd Y mY (X x) = Y2 at *
                rw [hV]
                clear hV n1 n2'
                go_wp2_with fail
                refine (HMV _).mono ?_
                rintro e w3 ⟨rfl, d4, rfl⟩
                clear HMV cN cM
                go_wp2_with fail
                go_roundw
                case rel => exact ⟨g', x, mY + 1, X2, Y2, _, HSTEP.out, by have := HG.out; omega, by have := HX1.out; omega, hf1, hf2, rfl⟩
                case measure =>
                  simp [HC1.out, HC2.out]
                  omega
              · have hT1 : (nX, X, mY, Y) = (n2, L2, m2, M2) := by
                  rw [← HF.out]
                  cases g with
                  | zero => rfl
                  | succ g => rw [fillUp, if_neg hY]
                have HT1 := Lib.hid hT1
                clear hT1
                rw [hV]
                go_wp2_with fail
                go_meet
                case rel =>
                  have hfin := HT1.out
                  rw [Prod.mk.injEq, Prod.mk.injEq, Prod.mk.injEq] at hfin
                  obtain ⟨f1, f2, f3, f4⟩ := hfin
                  rw [← hV, ← f1, ← f2, ← f3, ← f4]
                  exact ⟨by omega, hfX, hfY, _, rfl⟩
          · rw [if_neg hm2] at hev1
            have HT1 := Lib.hid hev1
            clear hev1
            go_wp2_with fail
            go_meet
            case rel =>
              have hfin := HT1.out
              rw [Prod.mk.injEq, Prod.mk.injEq, Prod.mk.injEq] at hfin
              obtain ⟨f1, f2, f3, f4⟩ := hfin
              rw [← hW, ← f1, ← f2, ← f3, ← f4]
              exact ⟨by omega, hfL, hfM, _, rfl⟩
      case rest =>
        obtain ⟨h2n, hf2L, hf2M, d2, rfl⟩ := hcut
        have hfin : splitF (zE b) r n E = (n2, srt n2 L2, m2, srt m2 M2) := by
          unfold splitF
          rw [HAX.out, HS.out, HEV.out]
        have hpost : ∀ L3 M3 : Ent, splitF (zE b) r n E = (n2, L3, m2, M3) → Fit b (fE L3) → Fit b (fE M3) → ∀ d, SplitPost w p q ic icL b r n E (.returned (.pointer (some ⟨p', 0, none⟩))) ((w1.put4 p q p' q' icL ic b (elT b) n2 L3 m2 M3).drewN d) := fun L3 M3 h4 h5 h6 d => by
          refine ⟨p', q', rfl, by have := hx.below.size; omega, by have := hx.below.size; omega, hpq', ?_⟩
          rw [h4]
          exact ⟨(put4_n1 hA).drewN d, (put4_l1 hA).drewN d, (put4_n2 hA).drewN d, (put4_l2 hA).drewN d, h5, h6, ((Chg.ex hx).trans' put4_chg (fun i hi h => by have := HB.out; have := hx.below.size; omega)).drewN d⟩
        have HFIN := Lib.hid hfin
        have HPOST := Lib.hid hpost
        clear hfin hpost
        have m64 : m2 ≤ 64 := by omega
        have n64 : n2 ≤ 64 := by omega
        have IS2 : ∀ (L' M' : Ent) (d : Nat), Calls Try.prog 72 #[.pointer (some ⟨p', 0, none⟩)] ((w1.put4 p q p' q' icL ic b (elT b) n2 L' m2 M').drewN d) fun e w' => e = .returned (.bool (inOrder M' (m2 - 1))) ∧ ∃ d, w' = (w1.put4 p q p' q' icL ic b (elT b) n2 L' m2 M').drewN d := fun L' M' d => by
          refine (issorted_c _ p' ⟨ic, b, m2, q', fun i => (M' i).1⟩ m2 ((put4_n2 hA).drewN d) rfl m64).mono ?_
          rintro e w' ⟨rfl, d', rfl⟩
          exact ⟨by rw [inOrd_E], _, World.drewN_drewN _ _ _⟩
        have IS1 : ∀ (L' M' : Ent) (d : Nat), Calls Try.prog 72 #[.pointer (some ⟨p, 0, none⟩)] ((w1.put4 p q p' q' icL ic b (elT b) n2 L' m2 M').drewN d) fun e w' => e = .returned (.bool (inOrder L' (n2 - 1))) ∧ ∃ d, w' = (w1.put4 p q p' q' icL ic b (elT b) n2 L' m2 M').drewN d := fun L' M' d => by
          refine (issorted_c _ p ⟨icL, b, n2, q, fun i => (L' i).1⟩ n2 ((put4_n1 hA).drewN d) rfl n64).mono ?_
          rintro e w' ⟨rfl, d', rfl⟩
          exact ⟨by rw [inOrd_E], _, World.drewN_drewN _ _ _⟩
        have SO2 : ∀ (L' M' : Ent) (d : Nat), Fit b (fE M') → Calls Try.prog 73 #[.pointer (some ⟨p', 0, none⟩)] ((w1.put4 p q p' q' icL ic b (elT b) n2 L' m2 M').drewN d) fun e w' => e = .returned (.tuple #[]) ∧ ∃ d, w' = (w1.put4 p q p' q' icL ic b (elT b) n2 L' m2 (qs (keyK 0 false false) m2 M' 0 m2)).drewN d := fun L' M' d hf => by
          have h := sort_c (w1.put4 p q p' q' icL ic b (elT b) n2 L' m2 M') p' ⟨ic, b, m2, q', fun i => (M' i).1⟩ (put4_n2 hA).lt (put4_l2 hA).lt hA.h6 m2 M' d rfl m64 hf
          dsimp only at h
          rw [put4_e2 hA, put4_e2 hA] at h
          exact h
        have SO1 : ∀ (L' M' : Ent) (d : Nat), Fit b (fE L') → Calls Try.prog 73 #[.pointer (some ⟨p, 0, none⟩)] ((w1.put4 p q p' q' icL ic b (elT b) n2 L' m2 M').drewN d) fun e w' => e = .returned (.tuple #[]) ∧ ∃ d, w' = (w1.put4 p q p' q' icL ic b (elT b) n2 (qs (keyK 0 false false) n2 L' 0 n2) m2 M').drewN d := fun L' M' d hf => by
          have h := sort_c (w1.put4 p q p' q' icL ic b (elT b) n2 L' m2 M') p ⟨icL, b, n2, q, fun i => (L' i).1⟩ (put4_n1 hA).lt (put4_l1 hA).lt hA.h1 n2 L' d rfl n64 hf
          dsimp only at h
          rw [put4_e1 hA, put4_e1 hA] at h
          exact h
        have LF : ∀ d, Calls Try.prog 70 #[.pointer (some ⟨p', 0, none⟩)] ((w1.put4 p q p' q' icL ic b (elT b) n2 L2 m2 M2).drewN d) fun e w' => e = .returned (.bool b) ∧ w' = (w1.put4 p q p' q' icL ic b (elT b) n2 L2 m2 M2).drewN d := fun d =>
          leaf_c _ p' ⟨ic, b, m2, q', fun i => (M2 i).1⟩ ((put4_n2 hA).drewN d)
        have hfq2 := Fit.qs (keyK 0 false false) m2 M2 0 m2 hf2M
        have hfq1 := Fit.qs (keyK 0 false false) n2 L2 0 n2 hf2L
        have e1y : inOrder L2 (n2 - 1) = true → srt n2 L2 = L2 := fun h => if_pos h
        have e1n : inOrder L2 (n2 - 1) = false → srt n2 L2 = qs (keyK 0 false false) n2 L2 0 n2 := fun h => if_neg (by simp [h])
        have e2y : inOrder M2 (m2 - 1) = true → srt m2 M2 = M2 := fun h => if_pos h
        have e2n : inOrder M2 (m2 - 1) = false → srt m2 M2 = qs (keyK 0 false false) m2 M2 0 m2 := fun h => if_neg (by simp [h])
        have S2 := SO2 L2 M2
        have I2 := IS2 L2 M2
        have I1a := IS1 L2 M2
        have I1b := IS1 L2 (qs (keyK 0 false false) m2 M2 0 m2)
        have S1a := SO1 L2 M2
        have S1b := SO1 L2 (qs (keyK 0 false false) m2 M2 0 m2)
        generalize qs (keyK 0 false false) m2 M2 0 m2 = M4 at *
        generalize qs (keyK 0 false false) n2 L2 0 n2 = L4 at *
        have key : ∀ (o1 o2 : Bool) (L3 M3 : Ent), inOrder L2 (n2 - 1) = o1 → inOrder M2 (m2 - 1) = o2 → L3 = (if o1 then L2 else L4) → M3 = (if o2 then M2 else M4) → splitF (zE b) r n E = (n2, L3, m2, M3) := fun o1 o2 L3 M3 h1 h2 h3 h4 => by
          rw [HFIN.out]
          cases o1 <;> cases o2 <;> subst h3 <;> subst h4
          · rw [e1n h1, e2n h2] <;> rfl
          · rw [e1n h1, e2y h2] <;> rfl
          · rw [e1y h1, e2n h2] <;> rfl
          · rw [e1y h1, e2y h2] <;> rfl
        have KEY := Lib.hid key
        clear key e1y e1n e2y e2n IS1 IS2 SO1 SO2
        generalize ho1 : inOrder L2 (n2 - 1) = o1 at *
        generalize ho2 : inOrder M2 (m2 - 1) = o2 at *
        have HO1 := Lib.hid ho1
        have HO2 := Lib.hid ho2
        have hK : splitF (zE b) r n E = (n2, (if o1 then L2 else L4), m2, (if o2 then M2 else M4)) := KEY.out o1 o2 _ _ rfl rfl rfl rfl
        have HK := Lib.hid hK
        clear ho1 ho2 hK KEY HFIN hW n1 cN hw1 hN hL hm
        cases b <;> cases o2 <;> cases o1
        all_goals
          go_wp2_with (first
            | (go_at_call 70; refine (LF _).mono ?_; rintro e w' ⟨rfl, rfl⟩)
            | (go_at_call 72; ((with_reducible refine (I2 _).mono ?_); rintro e w' ⟨rfl, d', rfl⟩))
            | (go_at_call 73; ((with_reducible refine (S2 _ hf2M).mono ?_); rintro e w' ⟨rfl, d', rfl⟩))
            | (go_at_call 72; ((with_reducible refine (I1a _).mono ?_); rintro e w' ⟨rfl, d', rfl⟩))
            | (go_at_call 72; ((with_reducible refine (I1b _).mono ?_); rintro e w' ⟨rfl, d', rfl⟩))
            | (go_at_call 73; ((with_reducible refine (S1a _ hf2L).mono ?_); rintro e w' ⟨rfl, d', rfl⟩))
            | (go_at_call 73; ((with_reducible refine (S1b _ hf2L).mono ?_); rintro e w' ⟨rfl, d', rfl⟩)))
          go_ret
          exact HPOST.out _ _ HK.out (by assumption) (by assumption) _
    have cA := cell_rcell n1 (i := k) (j := a) (by omega) (by omega)
    have cB := cell_rcell n1 (i := k) (j := 2 + a) (by omega) (by omega)
    have bA := rcell_bound (hsL k hlt) a
    have bB := rcell_bound (hsL k hlt) (2 + a)
    dsimp only at cA cB
    generalize hua : rcell (L k).1 a = ua at cA bA
    generalize hub : rcell (L k).1 (2 + a) = ub at cB bB
    rw [show 3 + k * 4 + (2 + a) = 3 + k * 4 + 2 + a by omega] at cB
    have HUA := Lib.hid hua
    have HUB := Lib.hid hub
    have HW := Lib.hid hW
    have a2 : (a : Int) < 2 := by omega
    have k64 : (k : Int) < 64 := by omega
    have n64 : nl ≤ 64 := by omega
    have HX : ∀ j, j < nl → (L j).1.small := hsL
    rw [hW]
    clear hua hub hW n1
    go_wp2_with fail
    (refine Mix.wp_region_dr (by kernel_rfl) (by kernel_rfl) ?_; (repeat (go_big_quiet_step (fail))); refine wpQuiet_nil ?_; intro nq)
    go_wp2_with fail
    (refine Mix.wp_region_dr (by kernel_rfl) (by kernel_rfl) ?_; (repeat (go_big_quiet_step (fail))); refine wpQuiet_nil ?_; intro nq)
    go_wp2_with fail
    · have hst : stays a r (L k).1 = true := by
        unfold stays; rw [HUA.out, HUB.out, HRA.out, HRB.out]; simp; omega
      have hsp := HSP.out
      obtain ⟨g, hg⟩ : ∃ g, f = g + 1 := ⟨f - 1, by omega⟩
      rw [hg, spl, if_pos hst] at hsp
      have HSQ := Lib.hid hsp
      have HFG := Lib.hid hg
      clear cA cB wa wb cN ra rb hst hsp hg
      go_roundw
      case rel => exact ⟨k + 1, g, nl, m, L, M, _, by have := HFG.out; omega, by omega, by go_num, HSQ.out, hfL, hfM, HX, by rw [HW.out]⟩
      case measure =>
        have h1 : ∀ d, cntAt (W.drewN d) p = nl := fun _ => HCN.out
        simp [intOf, h1]
        omega
    · have hst : ¬ stays a r (L k).1 = true := by
        unfold stays; rw [HUA.out, HUB.out, HRA.out, HRB.out]; simp; omega
      have hsp := HSP.out
      obtain ⟨g, hg⟩ : ∃ g, f = g + 1 := ⟨f - 1, by omega⟩
      rw [hg, spl, if_neg hst] at hsp
      have HSQ := Lib.hid hsp
      have HFG := Lib.hid hg
      obtain ⟨nk, hnk⟩ : ∃ nk, nl = nk + 1 := ⟨nl - 1, by omega⟩
      have HNK := Lib.hid hnk
      have HMV := fun d => move_c w1 t p q p' q' icL ic b nk L m M k d ht7' hA hfL hfM (by omega) (by omega) (by omega)
      rw [← hnk, HW.out] at HMV
      clear cA cB wa wb cN ra rb hst hsp hg hnk
      refine (HMV _).mono ?_
      rintro e w2 ⟨rfl, d2, rfl⟩
      have hfL2 : Fit b (fE (Bx.mvL L nk k (zE b))) := Fit.mvL hfL nk k
      have hfM2 : Fit b (fE (Bx.upd M m (L k))) := Fit.upd hfM hfL m k
      have hsL2 : ∀ j, j < nk → (Bx.mvL L nk k (zE b) j).1.small := fun j hj => by
        unfold Bx.mvL
        rw [upd_other _ _ _ _ (by omega)]
        unfold Bx.upd
        have := HNK.out
        split
        · exact HX nk (by omega)
        · exact HX j (by omega)
      have hcn2 : ∀ d, cntAt ((w1.put4 p q p' q' icL ic b (elT b) nk (Bx.mvL L nk k (zE b)) (m + 1) (Bx.upd M m (L k))).drewN d) p = nk := fun d => by
        have h := cntAt_node (put4_n1 (ic := icL) (ic' := ic) (b := b) (n := nk) (m := m + 1) (L := Bx.mvL L nk k (zE b)) (M := Bx.upd M m (L k)) hA)
        simp only [Int.toNat_natCast] at h
        exact h
      have hlast : nl - 1 = nk := by have := HNK.out; omega
      have HLAST := Lib.hid hlast
      have HSQ2 : Hid (spl (zE b) a r g k nk (Bx.mvL L nk k (zE b)) (m + 1) (Bx.upd M m (L k)) = S) := by
        have := HSQ.out
        rw [hlast] at this
        exact Lib.hid this
      clear HMV HSQ hlast HX hsL hfL hfM
      generalize Bx.mvL L nk k (zE b) = L2 at *
      generalize Bx.upd M m (L k) = M2 at *
      have HC2 := Lib.hid hcn2
      clear hcn2
      go_wp2_with fail
      go_roundw
      case rel => exact ⟨k, g, nk, m + 1, L2, M2, _, by have := HFG.out; have := HNK.out; omega, by have := HNK.out; omega, by go_num, HSQ2.out, hfL2, hfM2, hsL2, rfl⟩
      case measure =>
        have h1 : ∀ d, cntAt (W.drewN d) p = nl := fun _ => HCN.out
        simp [intOf, h1, HC2.out]
        have := HNK.out
        omega
end Go.Proofs.Ytenokcfpmfoekaa
