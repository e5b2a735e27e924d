/- ZZNearby and impl.Nearby. -/
import Derived.Test.YtboeldlilkeihaaNby
import Derived.Test.YtboeldlilkeihaaItm
set_option linter.unusedSimpArgs false
set_option linter.unusedVariables false
namespace Go.Proofs.Ytboeldlilkeihaa
open Go.RowKit Go.Bx
attribute [local go_sem] run_store_fl
theorem Row.map {α β : Type} {w : World} {base sz : Nat} {T : TypeId} {f : β → List Value} {g : α → β} {v : Value} {L : List α} (hf : ∀ x, (f x).length = sz) (h : w.Row base T sz (fun x => f (g x)) v L) : w.Row base T sz f v (L.map g) :=
  ⟨hf, by rw [List.length_map, List.flatMap_map]; exact h.own⟩
set_option maxRecDepth 100000 in
set_option maxHeartbeats 3200000 in
theorem zzNearby_c {c : Int} {Z : Nat → Prop} {w : World} {tr : Nat} {T : Tre} {cw : Value} {s : Nat → Prop} (hM : TreeM c Z w tr T cw s) (hO : TreOk T) (hT : (itT T).length ≤ 900000) (b : R) (hb : b.small) (mx : Nat) :
    Calls Try.prog 43 #[.pointer (some ⟨tr, 0, none⟩), .agg #[.int .i64 b.x0, .int .i64 b.y0, .int .i64 b.x1, .int .i64 b.y1], .int .i64 (mx : Int)] w fun e w' => ∃ (ob od of' : Option Addr) (m cb cd cf : Nat) (O : List ((R × Int) × Nat)) (rest : List (R × Int)), O.length = m ∧ e = .returned (.tuple #[.slice ob m cb, .slice od m cd, .slice of' m cf]) ∧ w'.Row w.heap.size 71 4 bO (.slice ob m cb) O ∧ w'.Row w.heap.size 3 1 dO (.slice od m cd) O ∧ w'.Row w.heap.size 48 1 fO (.slice of' m cf) O ∧
      Near (dst b) O rest (itT T) ∧ (rest = [] ∨ O.length = mx) ∧ O.length ≤ mx ∧ Mix.Ex w w' := by
  have hxa := ((((((Mix.Ex.refl w).alloc (.cells (boxV b).toArray 71)).alloc (.cells #[.int .i64 (mx : Int)] 3)).alloc (.cells #[.slice none 0 0] 68)).alloc (.cells #[.slice none 0 0] 43)).alloc (.cells #[.slice none 0 0] 79))
  have n0 := (((((Mix.Ex.refl (w.alloc (.cells (boxV b).toArray 71))).alloc (.cells #[.int .i64 (mx : Int)] 3)).alloc (.cells #[.slice none 0 0] 68)).alloc (.cells #[.slice none 0 0] 43)).alloc (.cells #[.slice none 0 0] 79)).obj (heap_alloc_new w (.cells (boxV b).toArray 71))
  have n1 := ((((Mix.Ex.refl ((w.alloc (.cells (boxV b).toArray 71)).alloc (.cells #[.int .i64 (mx : Int)] 3))).alloc (.cells #[.slice none 0 0] 68)).alloc (.cells #[.slice none 0 0] 43)).alloc (.cells #[.slice none 0 0] 79)).obj (heap_alloc_new (w.alloc (.cells (boxV b).toArray 71)) (.cells #[.int .i64 (mx : Int)] 3))
  have n2 := (((Mix.Ex.refl (((w.alloc (.cells (boxV b).toArray 71)).alloc (.cells #[.int .i64 (mx : Int)] 3)).alloc (.cells #[.slice none 0 0] 68))).alloc (.cells #[.slice none 0 0] 43)).alloc (.cells #[.slice none 0 0] 79)).obj (heap_alloc_new ((w.alloc (.cells (boxV b).toArray 71)).alloc (.cells #[.int .i64 (mx : Int)] 3)) (.cells #[.slice none 0 0] 68))
  have n3 := ((Mix.Ex.refl ((((w.alloc (.cells (boxV b).toArray 71)).alloc (.cells #[.int .i64 (mx : Int)] 3)).alloc (.cells #[.slice none 0 0] 68)).alloc (.cells #[.slice none 0 0] 43))).alloc (.cells #[.slice none 0 0] 79)).obj (heap_alloc_new (((w.alloc (.cells (boxV b).toArray 71)).alloc (.cells #[.int .i64 (mx : Int)] 3)).alloc (.cells #[.slice none 0 0] 68)) (.cells #[.slice none 0 0] 43))
  have n4 := heap_alloc_new ((((w.alloc (.cells (boxV b).toArray 71)).alloc (.cells #[.int .i64 (mx : Int)] 3)).alloc (.cells #[.slice none 0 0] 68)).alloc (.cells #[.slice none 0 0] 43)) (.cells #[.slice none 0 0] 79)
  have hsz : (((((w.alloc (.cells (boxV b).toArray 71)).alloc (.cells #[.int .i64 (mx : Int)] 3)).alloc (.cells #[.slice none 0 0] 68)).alloc (.cells #[.slice none 0 0] 43)).alloc (.cells #[.slice none 0 0] 79)).heap.size = w.heap.size + 5 := by simp
  simp only [World.size_alloc] at n0 n1 n2 n3 n4
  go_enter Try.func43, Try.ntmps43
  go_upto_region 1 with (fail)
  change Code.wp _ _ _ _ (((((w.alloc (.cells (boxV b).toArray 71)).alloc (.cells #[.int .i64 (mx : Int)] 3)).alloc (.cells #[.slice none 0 0] 68)).alloc (.cells #[.slice none 0 0] 43)).alloc (.cells #[.slice none 0 0] 79))
  generalize (((((w.alloc (.cells (boxV b).toArray 71)).alloc (.cells #[.int .i64 (mx : Int)] 3)).alloc (.cells #[.slice none 0 0] 68)).alloc (.cells #[.slice none 0 0] 43)).alloc (.cells #[.slice none 0 0] 79)) = w1 at hxa n0 n1 n2 n3 n4 hsz ⊢
  obtain ⟨Bb, hBb⟩ : ∃ Bb, w.heap.size = Bb := ⟨_, rfl⟩
  obtain ⟨pn, hpn⟩ : ∃ pn, w.heap.size + 1 = pn := ⟨_, rfl⟩
  obtain ⟨pb, hpb⟩ : ∃ pb, w.heap.size + 2 = pb := ⟨_, rfl⟩
  obtain ⟨pd, hpd⟩ : ∃ pd, w.heap.size + 3 = pd := ⟨_, rfl⟩
  obtain ⟨pf, hpf⟩ : ∃ pf, w.heap.size + 4 = pf := ⟨_, rfl⟩
  have hsz : w1.heap.size = pf + 1 := by omega
  simp only [Nat.add_assoc, Nat.reduceAdd] at n0 n1 n2 n3 n4
  rw [hpf] at n4 ⊢
  rw [hpd] at n3 ⊢
  rw [hpb] at n2 ⊢
  rw [hpn] at n1 ⊢
  rw [hBb] at n0 ⊢
  have hC : Coll3 w1 (pf + 1) pb pd pf [] := ⟨by omega, by omega, by omega, by omega, by omega, by omega, by omega, _, _, _, n2, n3, n4, .nil bO_len, .nil dO_len, .nil fO_len⟩
  have hS := nearby_c hM hO hT b hb w1 (pf + 1) pb pd pf pn Bb mx hC n1 n0 hxa (by omega) (by omega) (by omega) (by omega) (by omega)
  clear n0 n1 n2 n3 n4 hC hxa hsz
  have hmf : ∀ (fn : Fn) (first cap : Array Value) (w : World), (Instr.makeFunc fn first cap).run Try.prog w = .ok (.func fn first cap) w := fun _ _ _ _ => rfl
  go_wp2_with fail
  refine hS.mono ?_
  rintro e w2 ⟨rfl, O, rest, hC2, hnear, hrest, hon, hx2⟩
  obtain ⟨-, -, -, -, -, -, -, vb, vd, vf, hvb, hvd, hvf, hrb, hrd, hrf⟩ := hC2
  obtain ⟨ob, cb, rfl, -⟩ := hrb.slice
  obtain ⟨od, cd, rfl, -⟩ := hrd.slice
  obtain ⟨oF, cf, rfl, -⟩ := hrf.slice
  obtain ⟨m, hm⟩ : ∃ m, O.length = m := ⟨_, rfl⟩
  rw [hm] at hvb hvd hvf hrb hrd hrf
  have HRB := Lib.hid hrb
  have HRD := Lib.hid hrd
  have HRF := Lib.hid hrf
  have HX2 := Lib.hid hx2
  have HNR := Lib.hid hnear
  have HRS := Lib.hid hrest
  have HON := Lib.hid hon
  have HM := Lib.hid hm
  clear hS hrb hrd hrf hx2 hnear hrest hon hm
  go_upto_region 2 with (fail)
  have a0 : (w2.drewN 1).cell? ⟨pb, 0, none⟩ = some (.slice ob m cb) := by show w2.cell? _ = _; rw [cellOf hvb]; rfl
  have f0 : (w2.drewN 1).frozen? ⟨pb, 0, none⟩ = false := frzOf (w := w2) hvb 0
  have s0 := World.setCell_self a0
  have a1 : (w2.drewN 1).cell? ⟨pd, 0, none⟩ = some (.slice od m cd) := by show w2.cell? _ = _; rw [cellOf hvd]; rfl
  have f1 : (w2.drewN 1).frozen? ⟨pd, 0, none⟩ = false := frzOf (w := w2) hvd 0
  have s1 := World.setCell_self a1
  have a2 : (w2.drewN 1).cell? ⟨pf, 0, none⟩ = some (.slice oF m cf) := by show w2.cell? _ = _; rw [cellOf hvf]; rfl
  have f2 : (w2.drewN 1).frozen? ⟨pf, 0, none⟩ = false := frzOf (w := w2) hvf 0
  have s2 := World.setCell_self a2
  have HC := And.intro a0 (And.intro a1 a2)
  refine wp_region_K (fun W => W.cell? ⟨pb, 0, none⟩ = some (.slice ob m cb) ∧ W.cell? ⟨pd, 0, none⟩ = some (.slice od m cd) ∧ W.cell? ⟨pf, 0, none⟩ = some (.slice oF m cf)) 5 (by kernel_rfl) ?_
  change wpAnyK _ _ _ _ _ 6 (Array.replicate 6 false) _ _
  (refine wpAnyK_take (i := 0) (oi := ?_) (v := ?_) ?_ ?_ ?_ ?_ ?_ ?_ ?_ ?_ ?_; rotate_left 2; (focus (simp only [List.getElem?_toArray, List.getElem?_cons_zero, List.getElem?_cons_succ]; rfl)); (focus kernel_rfl); (focus kernel_rfl); (focus kernel_rfl); (focus kernel_rfl); (focus exact fun _ _ _ h => h); (focus (refine Or.inl ⟨by rfl, ?_⟩; intro W hW; (try dsimp only at hW); go_simp; try with_reducible rfl)); (focus exact HC); (try simp only [Act.put, List.setIfInBounds_toArray, List.set_cons_zero, List.set_cons_succ]))
  (refine wpAnyK_take (i := 1) (oi := ?_) (v := ?_) ?_ ?_ ?_ ?_ ?_ ?_ ?_ ?_ ?_; rotate_left 2; (focus (simp only [List.getElem?_toArray, List.getElem?_cons_zero, List.getElem?_cons_succ]; rfl)); (focus kernel_rfl); (focus kernel_rfl); (focus kernel_rfl); (focus kernel_rfl); (focus exact fun _ _ _ h => h); (focus (refine Or.inl ⟨by rfl, ?_⟩; intro W hW; (try dsimp only at hW); go_simp; try with_reducible rfl)); (focus exact HC); (try simp only [Act.put, List.setIfInBounds_toArray, List.set_cons_zero, List.set_cons_succ]))
  (refine wpAnyK_take (i := 2) (oi := ?_) (v := ?_) ?_ ?_ ?_ ?_ ?_ ?_ ?_ ?_ ?_; rotate_left 2; (focus (simp only [List.getElem?_toArray, List.getElem?_cons_zero, List.getElem?_cons_succ]; rfl)); (focus kernel_rfl); (focus kernel_rfl); (focus kernel_rfl); (focus kernel_rfl); (focus exact fun _ _ _ h => h); (focus (refine Or.inl ⟨by rfl, ?_⟩; intro W hW; (try dsimp only at hW); go_simp; try with_reducible rfl)); (focus exact HC); (try simp only [Act.put, List.setIfInBounds_toArray, List.set_cons_zero, List.set_cons_succ]))
  have HX3 := Lib.hid (HX2.out.drewN 1)
  have HRB3 := Lib.hid (HRB.out.ex ((Mix.Ex.refl w2).drewN 1))
  have HRD3 := Lib.hid (HRD.out.ex ((Mix.Ex.refl w2).drewN 1))
  have HRF3 := Lib.hid (HRF.out.ex ((Mix.Ex.refl w2).drewN 1))
  generalize w2.drewN 1 = w3 at HC a0 a1 a2 f0 f1 f2 s0 s1 s2 HX3 HRB3 HRD3 HRF3 ⊢
  (refine wpAnyK_one (i := 3) (o := ?_) ?_ ?_ ?_ (fun K hK => ?_); rotate_left 1; (focus kernel_rfl); (focus (simp only [List.getElem?_toArray, List.getElem?_cons_zero, List.getElem?_cons_succ]; rfl)); (focus rfl))
  go_simp
  refine hK _ _ (fun _ => HC) ?_
  clear hK K
  (refine wpAnyK_one (i := 4) (o := ?_) ?_ ?_ ?_ (fun K hK => ?_); rotate_left 1; (focus kernel_rfl); (focus (simp only [List.getElem?_toArray, List.getElem?_cons_zero, List.getElem?_cons_succ]; rfl)); (focus rfl))
  go_simp
  refine hK _ _ (fun _ => HC) ?_
  clear hK K
  (refine wpAnyK_one (i := 5) (o := ?_) ?_ ?_ ?_ (fun K hK => ?_); rotate_left 1; (focus kernel_rfl); (focus (simp only [List.getElem?_toArray, List.getElem?_cons_zero, List.getElem?_cons_succ]; rfl)); (focus rfl))
  go_simp
  refine hK _ _ (fun _ => HC) ?_
  clear hK K
  refine wpAnyK_done (by kernel_rfl) ?_ _
  clear HC s0 s1 s2 f0 f1 f2
  go_wp2_with fail
  refine bodyPost_ret (v := .tuple #[.slice ob m cb, .slice od m cd, .slice oF m cf]) (by simp [results, Try.results43, go_sem, a0, a1, a2]) rfl ⟨_, _, _, _, _, _, _, O, rest, HM.out, rfl, HRB3.out.mono (by omega), HRD3.out.mono (by omega), HRF3.out.mono (by omega), HNR.out, HRS.out, HON.out, HX3.out⟩
/-- An item and how far it is, in memory. -/
def nV (y : (R × Int) × Nat) : List Value := [.int .i64 y.1.1.x0, .int .i64 y.1.1.y0, .int .i64 y.1.1.x1, .int .i64 y.1.1.y1, .int .i64 y.1.2, .float .f64 (floatOfInt .f64 (y.2 : Int))]
theorem nV_len (x : (R × Int) × Nat) : (nV x).length = 6 := rfl
theorem nV_one (x : (R × Int) × Nat) : ∀ u ∈ nV x, u.oneCell' = true := by
  intro u hu
  simp [nV] at hu
  rcases hu with rfl | rfl | rfl | rfl | rfl | rfl <;> rfl
theorem info_near : (Try.prog.info? 50).map (fun i => (i.zero, i.size, i.bytes)) = some (some (.agg #[.int .i64 0, .int .i64 0, .int .i64 0, .int .i64 0, .int .i64 0, .float .f64 0]), 6, 48) := by kernel_rfl
set_option maxRecDepth 100000 in
set_option maxHeartbeats 3200000 in
theorem implNearby_c (w : World) (S : List Stp) (hS : ∀ st ∈ S, st.ok) (hm : S.length ≤ 900000) (b0 g cap n : Nat) (hn : S.length = n) (hr : w.Row b0 37 11 stepV (.slice (some ⟨g, 0, none⟩) n cap) S) (hl : (itT (Bx.runT tre0 S)).length ≤ 900000) (b : R) (hb : b.small) (mx : Nat) :
    Calls Try.prog 27 #[.slice (some ⟨g, 0, none⟩) n cap, .agg #[.int .i64 b.x0, .int .i64 b.y0, .int .i64 b.x1, .int .i64 b.y1], .int .i64 (mx : Int)] w fun e w' => ∃ (g2 cap2 : Nat) (O : List ((R × Int) × Nat)) (rest : List (R × Int)), e = .returned (.slice (some ⟨g2, 0, none⟩) O.length cap2) ∧ w'.Row w.heap.size 50 6 nV (.slice (some ⟨g2, 0, none⟩) O.length cap2) O ∧
      Near (dst b) O rest (itT (Bx.runT tre0 S)) ∧ (rest = [] ∨ O.length = mx) ∧ O.length ≤ mx ∧ Mix.Ex w w' := by
  obtain ⟨i0, hi0, hz0, hz1, hz2⟩ := info_parts info_near
  have hO := grown_ok hS
  have hxa := (Mix.Ex.refl w).alloc (.cells (boxV b).toArray 30)
  have n4 := heap_alloc_new w (.cells (boxV b).toArray 30)
  have hG := grown_c (w.alloc (.cells (boxV b).toArray 30)) S hS hm b0 g cap (by rw [hn]; exact hr.ex hxa)
  rw [hn] at hG
  generalize Bx.runT tre0 S = T at hG hl hO ⊢
  obtain ⟨B, hB⟩ : ∃ B, w.heap.size = B := ⟨_, rfl⟩
  go_enter Try.func27, Try.ntmps27
  go_wp2_with fail
  refine hG.mono ?_
  rintro e w2 ⟨tr, s, rfl, hM, -, -, hx2⟩
  rw [hB] at n4
  have n4 := hx2.obj n4
  have k0 := cellOf n4 0
  have k1 := cellOf n4 1
  have k2 := cellOf n4 2
  have k3 := cellOf n4 3
  simp only [boxV, List.getElem?_toArray, List.getElem?_cons_zero, List.getElem?_cons_succ] at k0 k1 k2 k3
  have hZ := zzNearby_c hM hO hl b hb mx
  have hx2 := hxa.trans hx2
  have HX2 := Lib.hid hx2
  clear hG hM hxa hx2 n4
  go_wp2_with fail
  refine hZ.mono ?_
  rintro e w3 ⟨ob, od, oF, m, cb, cd, cf, O, rest, hOm, rfl, hrb, hrd, hrf, hnear, hrest, hon, hx3⟩
  have HNR := Lib.hid hnear
  have HRS := Lib.hid hrest
  have HON := Lib.hid hon
  have HOM := Lib.hid hOm
  have hol : O.length ≤ 900000 := by
    have h := hnear.perm.length_eq
    rw [List.length_append, List.length_map] at h
    omega
  rw [hOm] at hol
  obtain ⟨-, -, -⟩ : True ∧ True ∧ True := ⟨trivial, trivial, trivial⟩
  have hsl : ∀ {o : Option Addr} {c : Nat}, w3.Row w2.heap.size 48 1 fO (.slice o m c) O → (0 < m → ∃ g, o = some ⟨g, 0, none⟩) := fun h hpos => by
    obtain ⟨o', c', e, ho'⟩ := h.slice
    simp only [Value.slice.injEq] at e
    rw [e.1]; exact ho' (by omega)
  have hof := hsl hrf
  have HRF := Lib.hid hrf
  have hI := fun W (hx : Mix.Ex w3 W) => implItems_c W _ _ _ _ (O.map (·.1)) (Row.map bI_len (hrb.ex hx)) (Row.map dI_len (hrd.ex hx)) (by rw [List.length_map, hOm]; exact hol)
  rw [List.length_map, hOm] at hI
  have HX3 := Lib.hid (HX2.out.trans hx3)
  clear hrb hrd hrf hsl hnear hrest hon hOm hx3 hZ k0 k1 k2 k3
  have hxb := (Mix.Ex.refl w3).alloc (.cells #[] 50)
  have n5 := heap_alloc_new w3 (.cells #[] 50)
  have hI := hI _ hxb
  go_wp2_with fail
  refine hI.mono ?_
  rintro e w4 ⟨g4, cap4, rfl, hrow4, hx4⟩
  have n5 := hx4.obj n5
  have HX4 := Lib.hid (hxb.trans hx4)
  have HROW4 := Lib.hid (hrow4.mono (base' := w3.heap.size) (by simp))
  have hbs3 := HX3.out.below.size
  have hs3 := hxb.below.size
  have hs4 := hx4.below.size
  rw [World.size_alloc] at hs3 hs4
  have H5 := Lib.hid (World.Row.made (base := w3.heap.size) nV_len w3.heap.size (Nat.le_refl _) n5)
  clear hI hrow4 hx4 hxb n5
  obtain ⟨B5, hB5⟩ : ∃ B5, w3.heap.size = B5 := ⟨_, rfl⟩
  rw [hB5] at H5 HROW4 hs3 hs4 hbs3 ⊢
  go_upto_region 5 with (fail)
  go_loopw [11, 29] (fun v i wr => ∃ kk g cap : Nat, kk ≤ m ∧ i = .int .i64 kk ∧ v = .slice (some ⟨g, 0, none⟩) kk cap ∧ wr.Row B5 50 6 nV (.slice (some ⟨g, 0, none⟩) kk cap) (O.take kk) ∧ wr.Row B5 35 5 itemV (.slice (some ⟨g4, 0, none⟩) m cap4) (O.map (·.1)) ∧ Mix.Ex w3 wr) (fun _ i _ => m - (intOf i).toNat)
  case atStart => exact ⟨0, B5, 0, by omega, rfl, rfl, H5.out, HROW4.out, HX4.out⟩
  case round =>
    obtain ⟨kk, gk, capk, hk, rfl, rfl, hrow, hri, hx⟩ := hrel
    by_cases hlt : kk < m
    case neg =>
      have hkn : kk = m := by omega
      have e : O.take kk = O := List.take_of_length_le (by have := HOM.out; omega)
      rw [e] at hrow
      have HROW := Lib.hid hrow
      have HXW := Lib.hid (HX3.out.trans hx)
      subst hkn
      clear hrow hx hri
      go_wp2_with fail
      go_ret
      refine ⟨gk, capk, O, rest, by rw [HOM.out]; rfl, ?_, HNR.out, HRS.out, HON.out, HXW.out⟩
      rw [HOM.out]
      exact HROW.out.mono (by omega)
    obtain ⟨gf, rfl⟩ := hof (by omega)
    obtain ⟨y, hy⟩ : ∃ y, O[kk]? = some y := ⟨O[kk]'(by have := HOM.out; omega), List.getElem?_eq_getElem _⟩
    have hym : (O.map (·.1))[kk]? = some y.1 := by rw [List.getElem?_map, hy]; rfl
    obtain ⟨l0, l1, l2, l3, l4⟩ := row_cells5 hri hym
    have hlf := (HRF.out.ex hx).cell (j := 0) (u := .float .f64 (floatOfInt .f64 (y.2 : Int))) hy rfl
    rw [Nat.mul_one, Nat.add_zero] at hlf
    have hsn : O.take (kk + 1) = O.take kk ++ [y] := takeN_snoc hy
    have htl : (O.take kk).length = kk := by rw [List.length_take]; have := HOM.out; omega
    have HSN := Lib.hid hsn
    have HTL := Lib.hid htl
    have hbs := hx.below.size
    have hgB : gk < wr.heap.size := (hrow.lt gk rfl).2
    have hBg : B5 ≤ gk := (hrow.lt gk rfl).1
    have hbd : gf ≠ gk := fun e => (hrow.apart (HRF.out.ex hx) (by decide)) gk rfl (by rw [e]; rfl)
    clear hsn htl hy hym
    generalize O.take kk = K0 at hrow HSN HTL
    have hxa := hx.alloc (.cells (itemV y.1).toArray 35)
    have hri := hri.ex ((Mix.Ex.refl wr).alloc (.cells (itemV y.1).toArray 35))
    have n6 := heap_alloc_new wr (.cells (itemV y.1).toArray 35)
    have hla := ((Mix.Ex.refl wr).alloc (.cells (itemV y.1).toArray 35)).cell hlf
    have hrow := hrow.ex ((Mix.Ex.refl wr).alloc (.cells (itemV y.1).toArray 35))
    go_upto_region 7 with (fail)
    change Code.wp _ _ _ _ (wr.alloc (.cells (itemV y.1).toArray 35))
    generalize hB7 : wr.heap.size = B7 at n6 hbs hgB ⊢
    generalize (wr.alloc (.cells (itemV y.1).toArray 35)) = w7 at hxa hri n6 hla hrow ⊢
    clear l0 l1 l2 l3 l4 hlf hx
    have l0 : (w7.drewN 1).cell? ⟨B7, 0, none⟩ = some (.int .i64 y.1.1.x0) := by show w7.cell? _ = _; rw [cellOf n6]; rfl
    have l1 : (w7.drewN 1).cell? ⟨B7, 1, none⟩ = some (.int .i64 y.1.1.y0) := by show w7.cell? _ = _; rw [cellOf n6]; rfl
    have l2 : (w7.drewN 1).cell? ⟨B7, 2, none⟩ = some (.int .i64 y.1.1.x1) := by show w7.cell? _ = _; rw [cellOf n6]; rfl
    have l3 : (w7.drewN 1).cell? ⟨B7, 3, none⟩ = some (.int .i64 y.1.1.y1) := by show w7.cell? _ = _; rw [cellOf n6]; rfl
    have l5 : (w7.drewN 1).cell? ⟨B7, 4, none⟩ = some (.int .i64 y.1.2) := by show w7.cell? _ = _; rw [cellOf n6]; rfl
    have l4 : (w7.drewN 1).cell? ⟨gf, kk, none⟩ = some (.float .f64 (floatOfInt .f64 (y.2 : Int))) := hla
    have HC := And.intro l0 (And.intro l1 (And.intro l2 (And.intro l3 (And.intro l5 l4))))
    have HXA := Lib.hid (hxa.drewN 1)
    have HRI := Lib.hid (hri.ex ((Mix.Ex.refl w7).drewN 1))
    have HROW := Lib.hid (hrow.ex ((Mix.Ex.refl w7).drewN 1))
    have hs7 : (w7.drewN 1).heap.size = w7.heap.size := rfl
    have hsz := hxa.below.size
    have hn7 := (Array.getElem?_eq_some_iff.1 n6).1
    clear l0 l1 l2 l3 l4 l5 hla hrow n6 hxa hri
    refine wp_region_K (fun W => W.cell? ⟨B7, 0, none⟩ = some (.int .i64 y.1.1.x0) ∧ W.cell? ⟨B7, 1, none⟩ = some (.int .i64 y.1.1.y0) ∧ W.cell? ⟨B7, 2, none⟩ = some (.int .i64 y.1.1.x1) ∧ W.cell? ⟨B7, 3, none⟩ = some (.int .i64 y.1.1.y1) ∧ W.cell? ⟨B7, 4, none⟩ = some (.int .i64 y.1.2) ∧ W.cell? ⟨gf, kk, none⟩ = some (.float .f64 (floatOfInt .f64 (y.2 : Int)))) 9 (by kernel_rfl) ?_
    change wpAnyK _ _ _ _ _ 10 (Array.replicate 10 false) _ _
    (refine wpAnyK_take (i := 0) (oi := ?_) (v := ?_) ?_ ?_ ?_ ?_ ?_ ?_ ?_ ?_ ?_; rotate_left 2; (focus (simp only [List.getElem?_toArray, List.getElem?_cons_zero, List.getElem?_cons_succ]; rfl)); (focus kernel_rfl); (focus kernel_rfl); (focus kernel_rfl); (focus kernel_rfl); (focus exact fun _ _ _ h => h); (focus (refine Or.inl ⟨by rfl, ?_⟩; intro W hW; (try dsimp only at hW); go_simp; try with_reducible rfl)); (focus exact HC); (try simp only [Act.put, List.setIfInBounds_toArray, List.set_cons_zero, List.set_cons_succ]))
    (refine wpAnyK_take (i := 1) (oi := ?_) (v := ?_) ?_ ?_ ?_ ?_ ?_ ?_ ?_ ?_ ?_; rotate_left 2; (focus (simp only [List.getElem?_toArray, List.getElem?_cons_zero, List.getElem?_cons_succ]; rfl)); (focus kernel_rfl); (focus kernel_rfl); (focus kernel_rfl); (focus kernel_rfl); (focus exact fun _ _ _ h => h); (focus (refine Or.inl ⟨by rfl, ?_⟩; intro W hW; (try dsimp only at hW); go_simp; try with_reducible rfl)); (focus exact HC); (try simp only [Act.put, List.setIfInBounds_toArray, List.set_cons_zero, List.set_cons_succ]))
    (refine wpAnyK_take (i := 2) (oi := ?_) (v := ?_) ?_ ?_ ?_ ?_ ?_ ?_ ?_ ?_ ?_; rotate_left 2; (focus (simp only [List.getElem?_toArray, List.getElem?_cons_zero, List.getElem?_cons_succ]; rfl)); (focus kernel_rfl); (focus kernel_rfl); (focus kernel_rfl); (focus kernel_rfl); (focus exact fun _ _ _ h => h); (focus (refine Or.inl ⟨by rfl, ?_⟩; intro W hW; (try dsimp only at hW); go_simp; try with_reducible rfl)); (focus exact HC); (try simp only [Act.put, List.setIfInBounds_toArray, List.set_cons_zero, List.set_cons_succ]))
    (refine wpAnyK_take (i := 3) (oi := ?_) (v := ?_) ?_ ?_ ?_ ?_ ?_ ?_ ?_ ?_ ?_; rotate_left 2; (focus (simp only [List.getElem?_toArray, List.getElem?_cons_zero, List.getElem?_cons_succ]; rfl)); (focus kernel_rfl); (focus kernel_rfl); (focus kernel_rfl); (focus kernel_rfl); (focus exact fun _ _ _ h => h); (focus (refine Or.inl ⟨by rfl, ?_⟩; intro W hW; (try dsimp only at hW); go_simp; try with_reducible rfl)); (focus exact HC); (try simp only [Act.put, List.setIfInBounds_toArray, List.set_cons_zero, List.set_cons_succ]))
    (refine wpAnyK_take (i := 4) (oi := ?_) (v := ?_) ?_ ?_ ?_ ?_ ?_ ?_ ?_ ?_ ?_; rotate_left 2; (focus (simp only [List.getElem?_toArray, List.getElem?_cons_zero, List.getElem?_cons_succ]; rfl)); (focus kernel_rfl); (focus kernel_rfl); (focus kernel_rfl); (focus kernel_rfl); (focus exact fun _ _ _ h => h); (focus (refine Or.inl ⟨by rfl, ?_⟩; intro W hW; (try dsimp only at hW); go_simp; try with_reducible rfl)); (focus exact HC); (try simp only [Act.put, List.setIfInBounds_toArray, List.set_cons_zero, List.set_cons_succ]))
    (refine wpAnyK_take (i := 5) (oi := ?_) (v := ?_) ?_ ?_ ?_ ?_ ?_ ?_ ?_ ?_ ?_; rotate_left 2; (focus (simp only [List.getElem?_toArray, List.getElem?_cons_zero, List.getElem?_cons_succ]; rfl)); (focus kernel_rfl); (focus kernel_rfl); (focus kernel_rfl); (focus kernel_rfl); (focus exact fun _ _ _ h => h); (focus (refine Or.inl ⟨by rfl, ?_⟩; intro W hW; (try dsimp only at hW); go_simp; try with_reducible rfl)); (focus exact HC); (try simp only [Act.put, List.setIfInBounds_toArray, List.set_cons_zero, List.set_cons_succ]))
    (refine wpAnyK_take (i := 6) (oi := ?_) (v := ?_) ?_ ?_ ?_ ?_ ?_ ?_ ?_ ?_ ?_; rotate_left 2; (focus (simp only [List.getElem?_toArray, List.getElem?_cons_zero, List.getElem?_cons_succ]; rfl)); (focus kernel_rfl); (focus kernel_rfl); (focus kernel_rfl); (focus kernel_rfl); (focus exact fun _ _ _ h => h); (focus (refine Or.inl ⟨by rfl, ?_⟩; intro W hW; (try dsimp only at hW); go_simp; try with_reducible rfl)); (focus exact HC); (try simp only [Act.put, List.setIfInBounds_toArray, List.set_cons_zero, List.set_cons_succ]))
    generalize w7.drewN 1 = w8 at HC HXA HRI HROW hs7 ⊢
    have HS7 := Lib.hid hs7
    clear hs7
    (refine wpAnyK_one (i := 7) (o := ?_) ?_ ?_ ?_ (fun K hK => ?_); rotate_left 1; (focus kernel_rfl); (focus (simp only [List.getElem?_toArray, List.getElem?_cons_zero, List.getElem?_cons_succ]; rfl)); (focus rfl))
    go_simp
    have hs7 := HS7.out
    have hnew := heap_alloc_new w8 (.cells #[.int .i64 y.1.1.x0, .int .i64 y.1.1.y0, .int .i64 y.1.1.x1, .int .i64 y.1.1.y1, .int .i64 y.1.2, .float .f64 (floatOfInt .f64 (y.2 : Int))] 50)
    have hx9 := HXA.out.alloc (.cells #[.int .i64 y.1.1.x0, .int .i64 y.1.1.y0, .int .i64 y.1.1.x1, .int .i64 y.1.1.y1, .int .i64 y.1.2, .float .f64 (floatOfInt .f64 (y.2 : Int))] 50)
    have hri9 := HRI.out.ex ((Mix.Ex.refl w8).alloc (.cells #[.int .i64 y.1.1.x0, .int .i64 y.1.1.y0, .int .i64 y.1.1.x1, .int .i64 y.1.1.y1, .int .i64 y.1.2, .float .f64 (floatOfInt .f64 (y.2 : Int))] 50))
    have hr9 := HROW.out.ex ((Mix.Ex.refl w8).alloc (.cells #[.int .i64 y.1.1.x0, .int .i64 y.1.1.y0, .int .i64 y.1.1.x1, .int .i64 y.1.1.y1, .int .i64 y.1.2, .float .f64 (floatOfInt .f64 (y.2 : Int))] 50))
    have hc9 : ∀ {a v}, w8.cell? a = some v → (w8.alloc (.cells #[.int .i64 y.1.1.x0, .int .i64 y.1.1.y0, .int .i64 y.1.1.x1, .int .i64 y.1.1.y1, .int .i64 y.1.2, .float .f64 (floatOfInt .f64 (y.2 : Int))] 50)).cell? a = some v := fun h => ((Mix.Ex.refl w8).alloc _).cell h
    obtain ⟨k0, k1, k2, k3, k4, k5⟩ := HC
    refine hK _ _ (fun _ => ⟨hc9 k0, hc9 k1, hc9 k2, hc9 k3, hc9 k4, hc9 k5⟩) ?_
    clear hK K
    have HC9 := And.intro (hc9 k0) (And.intro (hc9 k1) (And.intro (hc9 k2) (And.intro (hc9 k3) (And.intro (hc9 k4) (hc9 k5)))))
    generalize hG : w8.heap.size = G at hnew hs7 ⊢
    generalize (w8.alloc (.cells #[.int .i64 y.1.1.x0, .int .i64 y.1.1.y0, .int .i64 y.1.1.x1, .int .i64 y.1.1.y1, .int .i64 y.1.2, .float .f64 (floatOfInt .f64 (y.2 : Int))] 50)) = w9 at HC9 hnew hx9 hri9 hr9 ⊢
    clear k0 k1 k2 k3 k4 k5 hc9 HXA HRI HROW hG
    have hs9 := (Array.getElem?_eq_some_iff.1 hnew).1
    (refine wpAnyK_one (i := 8) (o := ?_) ?_ ?_ ?_ (fun K hK => ?_); rotate_left 1; (focus kernel_rfl); (focus (simp only [List.getElem?_toArray, List.getElem?_cons_zero, List.getElem?_cons_succ]; rfl)); (focus rfl))
    refine wp_append_row (.tmp 34) (.tmp 41) 46 rfl B5 50 i0 _ 6 48 Try.underlying46 hi0 hz0 hz1 hz2 rfl (by omega) nV (.slice (some ⟨gk, 0, none⟩) kk capk) K0 y rfl hr9 ⟨G, 0, none⟩ 1 rfl (news_of_cells (vs := nV y) hnew) (nV_one y) (by rw [HTL.out]; unfold maxLen; omega) (by rw [HTL.out]; omega) (by omega) ?_
    intro g2 cap2 w10 hr10 hg10 ho10 hlt10
    rw [HTL.out] at hr10 ⊢
    rw [← HSN.out] at hr10
    have hx10 := hx9.grown hg10 (fun j hj => by have := (hr9.lt j hj).1; omega)
    have hri10 := hri9.kept hg10 (.inr (fun e => (hri9.apart hr9 (by decide)) g4 rfl e.symm))
    have hrl := (hr9.lt gk rfl)
    have hbk : ∀ {b : Nat} {o : Nat} {v : Value}, b ≠ gk → w9.cell? ⟨b, o, none⟩ = some v → w10.cell? ⟨b, o, none⟩ = some v := fun {b o v} hb h => by
      have h1 : b < w9.heap.size := World.block_lt_of_cell? w9 _ h
      have h2 := hg10.block b h1 (by simp only [Value.ownBlock, ne_eq, Option.some.injEq]; exact hb)
      unfold World.cell? at h ⊢
      dsimp only at h ⊢
      rw [h2]; exact h
    obtain ⟨k0, k1, k2, k3, k4, k5⟩ := HC9
    have hb7 : B7 ≠ gk := by omega
    refine hK _ _ (fun _ => ⟨hbk hb7 k0, hbk hb7 k1, hbk hb7 k2, hbk hb7 k3, hbk hb7 k4, hbk hbd k5⟩) ?_
    clear hK K
    have HC10 := And.intro (hbk hb7 k0) (And.intro (hbk hb7 k1) (And.intro (hbk hb7 k2) (And.intro (hbk hb7 k3) (And.intro (hbk hb7 k4) (hbk hbd k5)))))
    have HR10 := Lib.hid hr10
    have HX10 := Lib.hid hx10
    have HRI10 := Lib.hid hri10
    clear hr10 hx10 hri10 hri9 hbk k0 k1 k2 k3 k4 k5 hr9 hnew hg10 ho10 hrl
    (refine wpAnyK_one (i := 9) (o := ?_) ?_ ?_ ?_ (fun K hK => ?_); rotate_left 1; (focus kernel_rfl); (focus (simp only [List.getElem?_toArray, List.getElem?_cons_zero, List.getElem?_cons_succ]; rfl)); (focus rfl))
    go_simp
    refine hK _ _ (fun _ => HC10) ?_
    clear hK K
    refine wpAnyK_done (by kernel_rfl) ?_ _
    clear HC10
    go_wp2_with fail
    go_roundw
    case measure => simp [intOf]; omega
    case rel => exact ⟨kk + 1, g2, cap2, by omega, by go_num, rfl, HR10.out, HRI10.out, HX10.out⟩
end Go.Proofs.Ytboeldlilkeihaa
