/- The contracts of Search, ZZSearch, impl.Search: the items that meet a box. -/
import Derived.Test.YtboeldlilkeihaaSrch
import Derived.Test.YtboeldlilkeihaaItm
import Derived.Test.YtboeldlilkeihaaBndL
set_option linter.unusedSimpArgs false
set_option linter.unusedVariables false
namespace Go.Bx
theorem TreOk.root {T : Tre} (h : TreOk T) {q : Σ h, Nde (El h)} (hq : T.root = some q) : RootOk q.1 T.rect q.2 := by
  unfold TreOk at h
  rw [hq] at h
  exact h.1
end Go.Bx
namespace Go.Proofs.Ytboeldlilkeihaa
open Go.RowKit Go.Bx
set_option maxRecDepth 100000 in
set_option maxHeartbeats 1600000 in
theorem treeSearch_c {c : Int} {Z : Nat → Prop} {w0 : World} {tr : Nat} {T : Tre} {cw : Value} {s : Nat → Prop} (hM : TreeM c Z w0 tr T cw s) (hO : TreOk T) (sR : R) (base pb pd : Nat) (h0 : w0.heap.size ≤ pb) (h1 : w0.heap.size ≤ pd) (hT : (itT T).length ≤ 900000)
    (w : World) (hC : Coll w base pb pd []) (hx : Mix.Ex w0 w) :
    Calls Try.prog 53 #[.pointer (some ⟨tr, 0, none⟩), .agg #[.int .i64 sR.x0, .int .i64 sR.y0], .agg #[.int .i64 sR.x1, .int .i64 sR.y1], .func (.func 54) #[] #[.pointer (some ⟨pb, 0, none⟩), .pointer (some ⟨pd, 0, none⟩)]] w fun e w' => e = .returned (.tuple #[]) ∧ Coll w' base pb pd ((itT T).filter (hit sR)) ∧ Mix.Ex w0 w' := by
  obtain ⟨rt, hTr, hR⟩ := hM.at_
  obtain ⟨cnt, rc, root⟩ := T
  dsimp only at hR hTr
  have hxa := ((Mix.Ex.refl w).alloc (.cells #[.int .i64 sR.x0, .int .i64 sR.y0] 28)).alloc (.cells #[.int .i64 sR.x1, .int .i64 sR.y1] 28)
  have hxb := hxa.alloc (.cells (boxV sR).toArray 91)
  have n5 := heap_alloc_new ((w.alloc (.cells #[.int .i64 sR.x0, .int .i64 sR.y0] 28)).alloc (.cells #[.int .i64 sR.x1, .int .i64 sR.y1] 28)) (.cells (boxV sR).toArray 91)
  have hsz : ((w.alloc (.cells #[.int .i64 sR.x0, .int .i64 sR.y0] 28)).alloc (.cells #[.int .i64 sR.x1, .int .i64 sR.y1] 28)).heap.size = w.heap.size + 1 + 1 := by simp
  rw [hsz] at n5
  clear hsz
  have HX0 := Lib.hid hx
  clear hx
  cases root with
  | none =>
    obtain ⟨rfl, -⟩ := hR
    have hi : itT ⟨cnt, rc, none⟩ = [] := rfl
    rw [hi, List.filter_nil]
    go_enter Try.func53, Try.ntmps53
    go_upto_region 2 with (fail)
    change Code.wp _ _ _ _ (((w.alloc (.cells #[.int .i64 sR.x0, .int .i64 sR.y0] 28)).alloc (.cells #[.int .i64 sR.x1, .int .i64 sR.y1] 28)).alloc (.cells (boxV sR).toArray 91))
    generalize (((w.alloc (.cells #[.int .i64 sR.x0, .int .i64 sR.y0] 28)).alloc (.cells #[.int .i64 sR.x1, .int .i64 sR.y1] 28)).alloc (.cells (boxV sR).toArray 91)) = w1 at hxb n5 ⊢
    have hTw := hTr.ex (HX0.out.trans hxb)
    unfold TreeAt at hTw
    have h6 : w1.cell? ⟨tr, 6, none⟩ = some (.pointer none) := by rw [cellOf hTw]; rfl
    clear hTw hTr n5
    go_wp2_with fail
    (try simp only [Exit.inBlock, Exit.then]); refine bodyPost_ret (results_none rfl _ _ _) rfl ?_
    exact ⟨rfl, hC.ex hxb, HX0.out.trans hxb⟩
  | some q =>
    have hRO := hO.root (q := q) rfl
    obtain ⟨h, t⟩ := q
    have hi : itT ⟨cnt, rc, some ⟨h, t⟩⟩ = itsN h t := rfl
    rw [hi] at hT ⊢
    have hE : ElAt c Z w0 (h + 1) rt t s := hR
    obtain ⟨p, rfl⟩ := hE.ptr
    obtain ⟨hr1, hr2, hr3⟩ := hRO
    dsimp only at hr1 hr2 hr3
    have hS := fun W hC hx => search_c c Z w0 base pb pd sR h0 h1 h _ t s hE hr3 W [] hC hx (by simpa using hT)
    simp only [List.nil_append] at hS
    have HS := Lib.hid hS
    have HR2 := Lib.hid hr2
    have HTr := Lib.hid hTr
    have HC := Lib.hid hC
    clear hS hR hE hr1 hr2 hr3 hM hO hTr hC
    go_enter Try.func53, Try.ntmps53
    go_upto_region 2 with (fail)
    change Code.wp _ _ _ _ (((w.alloc (.cells #[.int .i64 sR.x0, .int .i64 sR.y0] 28)).alloc (.cells #[.int .i64 sR.x1, .int .i64 sR.y1] 28)).alloc (.cells (boxV sR).toArray 91))
    generalize hw1 : (((w.alloc (.cells #[.int .i64 sR.x0, .int .i64 sR.y0] 28)).alloc (.cells #[.int .i64 sR.x1, .int .i64 sR.y1] 28)).alloc (.cells (boxV sR).toArray 91)) = w1 at hxb n5 ⊢
    clear hw1 hxa
    generalize hB5 : w.heap.size + 1 + 1 = B5 at n5 ⊢
    have hTw := HTr.out.ex (HX0.out.trans hxb)
    unfold TreeAt at hTw
    have h6 : w1.cell? ⟨tr, 6, none⟩ = some (.pointer (some ⟨p, 0, none⟩)) := by rw [cellOf hTw]; rfl
    have hrt : RectAt w1 B5 0 sR := rectAt_of_block n5
    have hrc : RectAt w1 tr 2 rc := ⟨by rw [cellOf hTw]; rfl, by rw [cellOf hTw]; rfl, by rw [cellOf hTw]; rfl, by rw [cellOf hTw]; rfl⟩
    have hI := intersects_c w1 B5 0 tr 2 sR rc hrt hrc
    obtain ⟨t0, t1, t2, t3⟩ := hrt
    have HXB := Lib.hid hxb
    clear hTw hrc n5 hxb
    cases hit? : sR.intersects rc
    · rw [hit?] at hI
      have hfin : (itsN h t).filter (hit sR) = [] := by
        rw [List.filter_eq_nil_iff]
        intro x hx hh
        have hc := HR2.out.le (List.mem_map.2 ⟨x, hx, rfl⟩)
        have := intersects_in hc hit?
        unfold hit at hh
        rw [this] at hh; cases hh
      have HF := Lib.hid hfin
      clear hit? hfin HS
      go_wp2_with fail
      refine hI.mono ?_
      rintro e w3 ⟨rfl, d3, rfl⟩
      clear hI
      go_wp2_with fail
      go_end0
      exact ⟨rfl, by rw [HF.out]; exact HC.out.ex (HXB.out.drewN _), HX0.out.trans (HXB.out.drewN _)⟩
    · rw [hit?] at hI
      clear hit?
      go_wp2_with fail
      refine hI.mono ?_
      rintro e w3 ⟨rfl, d3, rfl⟩
      clear hI
      have hS := fun m => HS.out (w1.drewN (d3 + m)) (HC.out.ex (HXB.out.drewN _)) (HX0.out.trans (HXB.out.drewN _))
      go_upto_region 4 with (fail)
      (refine Mix.wp_region_drw 6 [0] (by kernel_rfl) (by kernel_rfl) ?_; simp only [List.take_succ_cons, List.take_zero, List.drop_succ_cons, List.drop_zero]; (repeat (go_big_quiet_step (fail))); refine wpQuiet_nil ?_)
      (refine Mix.wpTl_dr (fun n K hK => ?_); go_simp)
      refine (hS _).mono ?_
      rintro e w4 ⟨rfl, hC4, hx4, -⟩
      refine ⟨_, rfl, _, Mix.Dr.refl _, hK _ _ trivial ?_⟩
      (clear hK K; simp only [Act.put, List.setIfInBounds_toArray, List.set_cons_zero, List.set_cons_succ, List.take_succ_cons, List.take_zero, List.drop_succ_cons, List.drop_zero])
      (refine wpQuiet_nil ?_; intro nq)
      clear hS h6 t0 t1 t2 t3
      go_wp2_with fail
      go_end0
      exact ⟨rfl, hC4.ex ((Mix.Ex.refl _).drewN _), hx4.drewN _⟩
set_option maxRecDepth 100000 in
set_option maxHeartbeats 1600000 in
theorem zzSearch_c {c : Int} {Z : Nat → Prop} {w : World} {tr : Nat} {T : Tre} {cw : Value} {s : Nat → Prop} (hM : TreeM c Z w tr T cw s) (hO : TreOk T) (sR : R) (hT : (itT T).length ≤ 900000) :
    Calls Try.prog 37 #[.pointer (some ⟨tr, 0, none⟩), .agg #[.int .i64 sR.x0, .int .i64 sR.y0, .int .i64 sR.x1, .int .i64 sR.y1]] w fun e w' => ∃ vb vd, e = .returned (.tuple #[vb, vd]) ∧ w'.Row w.heap.size 71 4 bI vb ((itT T).filter (hit sR)) ∧ w'.Row w.heap.size 3 1 dI vd ((itT T).filter (hit sR)) ∧ Mix.Ex w w' := by
  go_enter Try.func37, Try.ntmps37
  go_upto_region 1 with (fail)
  have hxa := (((Mix.Ex.refl w).alloc (.cells (boxV sR).toArray 71)).alloc (.cells #[.slice none 0 0] 68)).alloc (.cells #[.slice none 0 0] 43)
  have n4 := ((Mix.Ex.refl (w.alloc (.cells (boxV sR).toArray 71))).alloc (.cells #[.slice none 0 0] 68)).alloc (.cells #[.slice none 0 0] 43) |>.obj (heap_alloc_new w (.cells (boxV sR).toArray 71))
  have n5 := ((Mix.Ex.refl ((w.alloc (.cells (boxV sR).toArray 71)).alloc (.cells #[.slice none 0 0] 68))).alloc (.cells #[.slice none 0 0] 43)).obj (heap_alloc_new (w.alloc (.cells (boxV sR).toArray 71)) (.cells #[.slice none 0 0] 68))
  have n6 := heap_alloc_new ((w.alloc (.cells (boxV sR).toArray 71)).alloc (.cells #[.slice none 0 0] 68)) (.cells #[.slice none 0 0] 43)
  rw [World.size_alloc] at n5
  rw [World.size_alloc, World.size_alloc] at n6
  change Code.wp _ _ _ _ (((w.alloc (.cells (boxV sR).toArray 71)).alloc (.cells #[.slice none 0 0] 68)).alloc (.cells #[.slice none 0 0] 43))
  have hsz : (((w.alloc (.cells (boxV sR).toArray 71)).alloc (.cells #[.slice none 0 0] 68)).alloc (.cells #[.slice none 0 0] 43)).heap.size = w.heap.size + 3 := by simp
  generalize (((w.alloc (.cells (boxV sR).toArray 71)).alloc (.cells #[.slice none 0 0] 68)).alloc (.cells #[.slice none 0 0] 43)) = w1 at hxa n4 n5 n6 hsz ⊢
  obtain ⟨B5, hB5⟩ : ∃ B5, w.heap.size + 1 = B5 := ⟨_, rfl⟩
  obtain ⟨B6, hB6⟩ : ∃ B6, w.heap.size + 1 + 1 = B6 := ⟨_, rfl⟩
  rw [hB6] at n6 ⊢
  rw [hB5] at n5 ⊢
  obtain ⟨B4, hB4⟩ : ∃ B4, w.heap.size = B4 := ⟨_, rfl⟩
  rw [hB4] at n4 ⊢
  have q0 := cellOf n4 0
  have q1 := cellOf n4 1
  have q2 := cellOf n4 2
  have q3 := cellOf n4 3
  simp only [boxV, List.getElem?_toArray, List.getElem?_cons_zero, List.getElem?_cons_succ] at q0 q1 q2 q3
  have hC : Coll w1 (B5 + 2) B5 B6 [] := ⟨by omega, by omega, by omega, by omega, _, _, n5, n6, .nil bI_len, .nil dI_len⟩
  have hS := treeSearch_c hM hO sR (B5 + 2) B5 B6 (by omega) (by omega) hT w1 hC hxa
  clear n4 n5 n6 hC hxa hsz
  have hmf : ∀ (fn : Fn) (first cap : Array Value) (w : World), (Instr.makeFunc fn first cap).run Try.prog w = .ok (.func fn first cap) w := fun _ _ _ _ => rfl
  go_wp2_with fail
  refine hS.mono ?_
  rintro e w2 ⟨rfl, hC2, hx2⟩
  obtain ⟨hne, lb, ld, hbs, vb, vd, hvb, hvd, hrb, hrd⟩ := hC2
  obtain ⟨ob, cb, rfl, -⟩ := hrb.slice
  obtain ⟨od, cd, rfl, -⟩ := hrd.slice
  obtain ⟨nn, hnn⟩ : ∃ nn, ((itT T).filter (hit sR)).length = nn := ⟨_, rfl⟩
  rw [hnn] at hvb hvd hrb hrd
  have HRB := Lib.hid hrb
  have HRD := Lib.hid hrd
  have HX2 := Lib.hid hx2
  clear hS hrb hrd hx2 q0 q1 q2 q3
  go_upto_region 2 with (fail)
  have a0 : (w2.drewN 1).cell? ⟨B5, 0, none⟩ = some (.slice ob nn cb) := by show w2.cell? _ = _; rw [cellOf hvb]; rfl
  have a1 : (w2.drewN 1).cell? ⟨B6, 0, none⟩ = some (.slice od nn cd) := by show w2.cell? _ = _; rw [cellOf hvd]; rfl
  have f0 : (w2.drewN 1).frozen? ⟨B5, 0, none⟩ = false := frzOf (w := w2) hvb 0
  have f1 : (w2.drewN 1).frozen? ⟨B6, 0, none⟩ = false := frzOf (w := w2) hvd 0
  have HC := And.intro a0 a1
  have s0 := World.setCell_self a0
  have s1 := World.setCell_self a1
  refine wp_region_K (fun W => W.cell? ⟨B5, 0, none⟩ = some (.slice ob nn cb) ∧ W.cell? ⟨B6, 0, none⟩ = some (.slice od nn cd)) 3 (by kernel_rfl) ?_
  change wpAnyK _ _ _ _ _ 4 (Array.replicate 4 false) _ _
  (refine wpAnyK_take (i := 0) (oi := ?_) (v := ?_) ?_ ?_ ?_ ?_ ?_ ?_ ?_ ?_ ?_; rotate_left 2; (focus (simp only [List.getElem?_toArray, List.getElem?_cons_zero, List.getElem?_cons_succ]; rfl)); (focus kernel_rfl); (focus kernel_rfl); (focus kernel_rfl); (focus kernel_rfl); (focus exact fun _ _ _ h => h); (focus (refine Or.inl ⟨by rfl, ?_⟩; intro W hW; (try dsimp only at hW); go_simp; try with_reducible rfl)); (focus exact HC); (try simp only [Act.put, List.setIfInBounds_toArray, List.set_cons_zero, List.set_cons_succ]))
  (refine wpAnyK_take (i := 1) (oi := ?_) (v := ?_) ?_ ?_ ?_ ?_ ?_ ?_ ?_ ?_ ?_; rotate_left 2; (focus (simp only [List.getElem?_toArray, List.getElem?_cons_zero, List.getElem?_cons_succ]; rfl)); (focus kernel_rfl); (focus kernel_rfl); (focus kernel_rfl); (focus kernel_rfl); (focus exact fun _ _ _ h => h); (focus (refine Or.inl ⟨by rfl, ?_⟩; intro W hW; (try dsimp only at hW); go_simp; try with_reducible rfl)); (focus exact HC); (try simp only [Act.put, List.setIfInBounds_toArray, List.set_cons_zero, List.set_cons_succ]))
  have HX3 := Lib.hid (HX2.out.drewN 1)
  have HRB3 := Lib.hid (HRB.out.ex ((Mix.Ex.refl w2).drewN 1))
  have HRD3 := Lib.hid (HRD.out.ex ((Mix.Ex.refl w2).drewN 1))
  generalize w2.drewN 1 = w3 at HC a0 a1 f0 f1 s0 s1 HX3 HRB3 HRD3 ⊢
  (refine wpAnyK_one (i := 2) (o := ?_) ?_ ?_ ?_ (fun K hK => ?_); rotate_left 1; (focus kernel_rfl); (focus (simp only [List.getElem?_toArray, List.getElem?_cons_zero, List.getElem?_cons_succ]; rfl)); (focus rfl))
  go_simp
  refine hK _ _ (fun _ => HC) ?_
  clear hK K
  (refine wpAnyK_one (i := 3) (o := ?_) ?_ ?_ ?_ (fun K hK => ?_); rotate_left 1; (focus kernel_rfl); (focus (simp only [List.getElem?_toArray, List.getElem?_cons_zero, List.getElem?_cons_succ]; rfl)); (focus rfl))
  go_simp
  refine hK _ _ (fun _ => HC) ?_
  clear hK K
  refine wpAnyK_done (by kernel_rfl) ?_ _
  clear HC s0 s1 f0 f1
  go_wp2_with fail
  refine bodyPost_ret (v := .tuple #[.slice ob nn cb, .slice od nn cd]) (by simp [results, Try.results37, go_sem, a0, a1]) rfl ⟨_, _, rfl, HRB3.out.mono (by omega), HRD3.out.mono (by omega), HX3.out⟩
set_option maxRecDepth 100000 in
theorem implSearch_c (w : World) (S : List Stp) (hS : ∀ st ∈ S, st.ok) (hm : S.length ≤ 900000) (b0 g cap n : Nat) (hn : S.length = n) (hr : w.Row b0 37 11 stepV (.slice (some ⟨g, 0, none⟩) n cap) S) (hl : (itT (Bx.runT tre0 S)).length ≤ 900000) (sR : R) :
    Calls Try.prog 19 #[.slice (some ⟨g, 0, none⟩) n cap, .agg #[.int .i64 sR.x0, .int .i64 sR.y0, .int .i64 sR.x1, .int .i64 sR.y1]] w fun e w' => ∃ g2 cap2, e = .returned (.slice (some ⟨g2, 0, none⟩) ((itT (Bx.runT tre0 S)).filter (hit sR)).length cap2) ∧
      w'.Row w.heap.size 35 5 itemV (.slice (some ⟨g2, 0, none⟩) ((itT (Bx.runT tre0 S)).filter (hit sR)).length cap2) ((itT (Bx.runT tre0 S)).filter (hit sR)) ∧ Mix.Ex w w' := by
  have hxa := (Mix.Ex.refl w).alloc (.cells (boxV sR).toArray 30)
  have hG := grown_c (w.alloc (.cells (boxV sR).toArray 30)) S hS hm b0 g cap (by rw [hn]; exact hr.ex hxa)
  have hO := grown_ok hS
  have n5 := heap_alloc_new w (.cells (boxV sR).toArray 30)
  rw [hn] at hG
  generalize Bx.runT tre0 S = T at hG hl hO ⊢
  have hfl : ((itT T).filter (hit sR)).length ≤ 900000 := Nat.le_trans (List.length_filter_le _ _) hl
  go_enter Try.func19, Try.ntmps19
  go_wp2_with fail
  refine hG.mono ?_
  rintro e w2 ⟨tr, s, rfl, hM, -, -, hx⟩
  have n5 := hx.obj n5
  generalize hB4 : w.heap.size = B4 at n5 ⊢
  have q0 := cellOf n5 0
  have q1 := cellOf n5 1
  have q2 := cellOf n5 2
  have q3 := cellOf n5 3
  simp only [boxV, List.getElem?_toArray, List.getElem?_cons_zero, List.getElem?_cons_succ] at q0 q1 q2 q3
  have hxw := hxa.trans hx
  clear n5 hG hxa hx
  go_wp2_with fail
  refine (zzSearch_c hM hO sR hl).mono ?_
  rintro e w3 ⟨vb, vd, rfl, hrb, hrd, hx3⟩
  have hI := implItems_c w3 _ _ vb vd _ hrb hrd hfl
  obtain ⟨ob, cb, rfl, -⟩ := hrb.slice
  obtain ⟨od, cd, rfl, -⟩ := hrd.slice
  have hs2 := hxw.below.size
  have hs3 := hx3.below.size
  clear hrb hrd q0 q1 q2 q3
  go_wp2_with fail
  refine hI.mono ?_
  rintro e w4 ⟨g2, cap2, rfl, hrow, hx4⟩
  go_wp2_with fail
  go_ret
  exact ⟨g2, cap2, rfl, hrow.mono (by omega), (hxw.trans hx3).trans hx4⟩
end Go.Proofs.Ytboeldlilkeihaa
