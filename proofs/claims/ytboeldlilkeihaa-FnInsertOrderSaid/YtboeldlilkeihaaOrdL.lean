/- The law that the order of inserts changes nothing of what is found: the plain law and the walk. -/
import Derived.Test.YtboeldlilkeihaaPtL
set_option linter.unusedSimpArgs false
set_option linter.unusedVariables false
namespace Go
section
variable {P : Program} {ops : Array Oper} {Q : Exit → Act → World → Prop} {C : World → Prop} {k : Nat}
/-- One alone may come up, and its guard is met. -/
theorem wpAnyK_oneW {i : Nat} {o : Oper} {fuel : Nat} {listed : Array Bool} {a : Act} {w : World} (hr : Region.ready .any ops listed = [i]) (hi : ops[i]? = some o) (hg : Region.wanted o (yielded ops a.tmps) = true)
    (h : ∀ K : Act → World → Prop, (∀ a' w', ((listed.setIfInBounds i true).getD k true = false → C w') → wpAnyK P ops Q C k fuel (listed.setIfInBounds i true) a' w' → K a' w') → Oper.wp P o a w K Q) :
    wpAnyK P ops Q C k (fuel + 1) listed a w := by
  refine ⟨fun h0 => (by rw [hr] at h0; cases h0), fun j hj => ?_⟩
  rw [hr] at hj
  obtain rfl : j = i := by simpa using hj
  unfold wpOp
  simp only [hi]
  rw [if_pos hg]
  exact .inl (h _ fun a' w' h1 h2 => ⟨h1, h2⟩)
end
end Go
namespace Go.Bx
/-- A step turned into an insert. -/
def ins0 (st : Stp) : Stp := ⟨0, st.o, st.n⟩
theorem play_ins (S : List Stp) : ∀ L, play L (S.map ins0) = L ++ S.map (·.o) := by
  induction S with
  | nil => intro L; simp [play]
  | cons st S ih =>
    intro L
    show play (play1 (ins0 st) L) (S.map ins0) = _
    rw [ih]
    simp [play1, ins0]
theorem ins0_ok {S : List Stp} (h : ∀ st ∈ S, st.ok) : ∀ st ∈ S.map ins0, st.ok := by
  intro st hst
  obtain ⟨a, ha, rfl⟩ := List.mem_map.1 hst
  exact h a ha
theorem ins0_fair (S : List Stp) : fair [] (S.map ins0) := by
  intro i st hi hk
  have := List.mem_of_getElem? hi
  obtain ⟨a, _, rfl⟩ := List.mem_map.1 this
  simp [ins0] at hk
theorem order_perm {S : List Stp} (h : ∀ st ∈ S, st.ok) : (itT (runT tre0 (S.map ins0))).Perm (itT (runT tre0 (S.map ins0).reverse)) ∧ (itT (runT tre0 (S.map ins0))).length = S.length := by
  have h1 := grown_fair (ins0_ok h) (ins0_fair S)
  have hr : ∀ st ∈ S.reverse, st.ok := fun st hst => h st (List.mem_reverse.1 hst)
  have h2 := grown_fair (ins0_ok hr) (ins0_fair S.reverse)
  rw [play_ins, List.nil_append] at h1 h2
  rw [List.map_reverse, List.map_reverse] at h2
  exact ⟨(h1.trans (List.reverse_perm _).symm).trans h2.symm, by rw [h1.length_eq]; simp⟩
end Go.Bx
namespace Go.Proofs.Ytboeldlilkeihaa
open Go.RowKit Go.Bx
theorem Row.ne_block {α : Type} {w : World} {b0 sz b : Nat} {T T' : TypeId} {f : α → List Value} {v : Value} {L : List α} {cs : Array Value} (h : w.Row b0 T sz f v L) (hb : w.heap[b]? = some (.cells cs T' (0, 0))) (ht : T ≠ T') : v.ownBlock ≠ some b := by
  intro e
  rcases h.own.2 with ⟨rfl, _⟩ | ⟨g, cap, cur, rfl, _, h2, _⟩
  · cases e
  simp only [Value.ownBlock, Option.some.injEq] at e
  subst e
  rw [hb] at h2
  simp only [Option.some.injEq, Obj.cells.injEq] at h2
  exact ht h2.2.1.symm
theorem row_cells11 {w : World} {b0 g n cap k : Nat} {T : TypeId} {L : List Stp} {st : Stp} (h : w.Row b0 T 11 stepV (.slice (some ⟨g, 0, none⟩) n cap) L) (hk : L[k]? = some st) :
    w.cell? ⟨g, k * 11, none⟩ = some (.int .i64 st.k) ∧ w.cell? ⟨g, k * 11 + 1, none⟩ = some (.int .i64 st.o.1.x0) ∧ w.cell? ⟨g, k * 11 + 2, none⟩ = some (.int .i64 st.o.1.y0) ∧ w.cell? ⟨g, k * 11 + 3, none⟩ = some (.int .i64 st.o.1.x1) ∧ w.cell? ⟨g, k * 11 + 4, none⟩ = some (.int .i64 st.o.1.y1) ∧ w.cell? ⟨g, k * 11 + 5, none⟩ = some (.int .i64 st.o.2) ∧
    w.cell? ⟨g, k * 11 + 6, none⟩ = some (.int .i64 st.n.1.x0) ∧ w.cell? ⟨g, k * 11 + 7, none⟩ = some (.int .i64 st.n.1.y0) ∧ w.cell? ⟨g, k * 11 + 8, none⟩ = some (.int .i64 st.n.1.x1) ∧ w.cell? ⟨g, k * 11 + 9, none⟩ = some (.int .i64 st.n.1.y1) ∧ w.cell? ⟨g, k * 11 + 10, none⟩ = some (.int .i64 st.n.2) :=
  ⟨h.cell (j := 0) hk rfl, h.cell (j := 1) hk rfl, h.cell (j := 2) hk rfl, h.cell (j := 3) hk rfl, h.cell (j := 4) hk rfl, h.cell (j := 5) hk rfl, h.cell (j := 6) hk rfl, h.cell (j := 7) hk rfl, h.cell (j := 8) hk rfl, h.cell (j := 9) hk rfl, h.cell (j := 10) hk rfl⟩
set_option maxRecDepth 100000 in
set_option maxHeartbeats 3200000 in
theorem insertOrder_walk (w : World) (v : Value) (zs : List Int) (a b c d : Int) (h : Ints16At w v zs) (ha : -32768 ≤ a ∧ a ≤ 32767) (hb : -32768 ≤ b ∧ b ≤ 32767) (hc : -32768 ≤ c ∧ c ≤ 32767) (hd : -32768 ≤ d ∧ d ≤ 32767) :
    Calls Try.prog 14 #[v, .int .i16 a, .int .i16 b, .int .i16 c, .int .i16 d] w fun e w' => e = .returned (.bool true) ∧ Mix.Ex w w' := by
  obtain ⟨i0, hi0, hz0, hz1, hz2⟩ := info_parts info_step
  have h' := h
  obtain ⟨⟨o, cap0, rfl, hcells⟩, hle, hcap, hwf⟩ := h
  clear hcells hwf hcap
  have hBO := fun W => BoxOf_c W a b c d ha hb hc hd
  generalize R.of4 a b c d = sR at hBO
  go_enter Try.func14, Try.ntmps14
  go_wp2_with fail
  · go_ret
    exact ⟨rfl, Mix.Ex.refl _⟩
  have hxe := (Mix.Ex.refl w).alloc (.cells #[] 37)
  have nE := heap_alloc_new w (.cells #[] 37)
  refine (hBO _).mono ?_
  rintro e w2 ⟨rfl, hx2⟩
  clear hBO
  go_upto_region 4 with (fail)
  have hxa := (Mix.Ex.refl w2).alloc (.cells (boxV sR).toArray 30)
  have n5 := heap_alloc_new w2 (.cells (boxV sR).toArray 30)
  change Code.wp _ _ _ _ (w2.alloc (.cells (boxV sR).toArray 30))
  generalize hB5 : w2.heap.size = B5 at n5 ⊢
  generalize (w2.alloc (.cells (boxV sR).toArray 30)) = w3 at hxa n5 ⊢
  have hx3 := (hxe.trans hx2).trans hxa
  have nE3 := (hx2.trans hxa).obj nE
  generalize hBE : w.heap.size = BE at nE3 ⊢
  go_wp2_with fail
  refine (steps_c w3 _ zs (h'.ex hx3)).mono ?_
  rintro e w4 ⟨g, cap, rfl, hr, hx4⟩
  have hl := stepsOf_len zs
  have hok := stepsOf_ok h'
  generalize stepsOf zs = S at hr hl hok ⊢
  obtain ⟨n, hn⟩ : ∃ n, S.length = n := ⟨_, rfl⟩
  rw [hn] at hr ⊢
  have hnl : n ≤ 400 := by omega
  have hBE3 := (Array.getElem?_eq_some_iff.1 nE3).1
  have HN := Lib.hid hn
  have HOK := Lib.hid hok
  have HX4 := Lib.hid (hx3.trans hx4)
  have N5 := Lib.hid (hx4.obj n5)
  have NE := Lib.hid (hx4.obj nE3)
  clear nE3 nE hn hok n5 hxa hx2 hx3 hx4 hxe h'
  go_wp2_with fail
  have hgE : g ≠ BE := by have := (hr.lt g rfl).1; omega
  go_loopw [11, 29] (fun u i wr => ∃ jj gs cs : Nat, jj ≤ n ∧ i = .int .i64 jj ∧ u = .slice (some ⟨gs, 0, none⟩) jj cs ∧ wr.Row BE 37 11 stepV u ((S.take jj).map ins0) ∧ wr.Row 0 37 11 stepV (.slice (some ⟨g, 0, none⟩) n cap) S ∧ g ≠ gs ∧ wr.heap[B5]? = some (.cells (boxV sR).toArray 30 (0, 0)) ∧ Mix.Ex w wr) (fun _ i _ => n - (intOf i).toNat)
  case atStart => exact ⟨0, BE, 0, by omega, rfl, rfl, .made stepV_len BE (Nat.le_refl _) NE.out, hr.mono (Nat.zero_le _), hgE, N5.out, HX4.out⟩
  case round =>
    obtain ⟨jj, gs, cs, hj, rfl, rfl, hru, hrs, hne, hb5, hx⟩ := hrel
    by_cases hlj : jj < n
    case neg =>
      have e : S.take jj = S := List.take_of_length_le (by have := HN.out; omega)
      rw [e] at hru
      have hjn : jj = n := by omega
      subst hjn
      have hal : (S.map ins0).length = jj := by rw [List.length_map]; exact HN.out
      obtain ⟨hpo, hpl⟩ := order_perm HOK.out
      have hoA := ins0_ok HOK.out
      have hoR : ∀ st ∈ (S.map ins0).reverse, st.ok := fun st h => hoA st (List.mem_reverse.1 h)
      rw [HN.out] at hpl
      have HPO := Lib.hid hpo
      have HPL := Lib.hid hpl
      have HAL := Lib.hid hal
      have HOA := Lib.hid hoA
      have HOR := Lib.hid hoR
      clear hal hpo hpl hoA hoR e hrs hne hr hgE
      generalize S.map ins0 = A0 at hru HPO HPL HAL HOA HOR
      have hnb : Value.ownBlock (.slice (some ⟨gs, 0, none⟩) jj cs) ≠ some B5 := Row.ne_block hru hb5 (by decide)
      have hxb := (Mix.Ex.refl wr).alloc (.cells #[] 37)
      have n2 := heap_alloc_new wr (.cells #[] 37)
      have hruB := hru.ex hxb
      have hb5B := hxb.obj hb5
      have hxB := hx.trans hxb
      have hgsl := (hru.lt gs rfl).2
      have hwl := hx.below.size
      clear hru hb5 hx
      go_upto_region 12 with (fail)
      change Code.wp _ _ _ _ (wr.alloc (.cells #[] 37))
      generalize hB2 : wr.heap.size = B2 at n2 hgsl hwl ⊢
      generalize (wr.alloc (.cells #[] 37)) = w7 at n2 hruB hb5B hxB hxb ⊢
      have HNB := Lib.hid hnb
      clear hxb hnb
      go_loopw [15, 16] (fun u i wr => ∃ kk gb cb : Nat, ∃ z : Int, kk ≤ jj ∧ i = .int .i64 z ∧ z + kk + 1 = jj ∧ u = .slice (some ⟨gb, 0, none⟩) kk cb ∧ wr.Row BE 37 11 stepV u (A0.reverse.take kk) ∧ wr.Row BE 37 11 stepV (.slice (some ⟨gs, 0, none⟩) jj cs) A0 ∧ gs ≠ gb ∧ wr.heap[B5]? = some (.cells (boxV sR).toArray 30 (0, 0)) ∧ Mix.Ex w wr) (fun _ i _ => (intOf i + 1).toNat)
      case atStart => exact ⟨0, B2, 0, (jj : Int) - 1, by omega, rfl, by omega, rfl, .made stepV_len B2 (by omega) n2, hruB, by omega, hb5B, hxB⟩
      case round =>
        obtain ⟨kk, gb, cb, z, hk, rfl, hz, rfl, hrb, hrs, hne, hb5, hx⟩ := hrel
        by_cases hlk : kk < jj
        case neg =>
          have hkj : kk = jj := by omega
          have e : A0.reverse.take kk = A0.reverse := List.take_of_length_le (by rw [List.length_reverse]; have := HAL.out; omega)
          rw [e] at hrb
          have hz1 : z = -1 := by omega
          subst hz1
          subst hkj
          have hrl : A0.reverse.length = kk := by rw [List.length_reverse]; exact HAL.out
          have hil : (itT (Bx.runT tre0 A0)).length ≤ 900000 := by rw [HPL.out]; omega
          have hil2 : (itT (Bx.runT tre0 A0.reverse)).length ≤ 900000 := by rw [← HPO.out.length_eq]; exact hil
          have HS1 := Lib.hid (fun W (hx : Mix.Ex wr W) => implSearch_c W A0 HOA.out (by have := HAL.out; omega) _ gs cs kk HAL.out (hrs.ex hx) hil sR)
          have HS2 := Lib.hid (fun W (hx : Mix.Ex wr W) => implSearch_c W A0.reverse HOR.out (by omega) _ gb cb kk hrl (hrb.ex hx) hil2 sR)
          have HLN := Lib.hid (fun W (hx : Mix.Ex wr W) => implLen_c W A0 HOA.out (by have := HAL.out; omega) _ gs cs kk HAL.out (hrs.ex hx))
          have hpf := HPO.out.filter (hit sR)
          have hfl : ((itT (Bx.runT tre0 A0)).filter (hit sR)).length ≤ 900000 := Nat.le_trans (List.length_filter_le _ _) hil
          have hfe := hpf.length_eq
          have HSM := Lib.hid (fun W b1 b2 v1 v2 h1 h2 => same_c W b1 b2 v1 v2 ((itT (Bx.runT tre0 A0)).filter (hit sR)) ((itT (Bx.runT tre0 A0.reverse)).filter (hit sR)) h1 h2 hfl hpf)
          rw [HPL.out] at HLN
          have HXW := Lib.hid hx
          have HB5 := Lib.hid hb5
          clear hrs hrb hne hx hb5 hpf hfl hil hil2 e
          generalize (itT (Bx.runT tre0 A0)).filter (hit sR) = G1 at HS1 HSM hfe
          generalize (itT (Bx.runT tre0 A0.reverse)).filter (hit sR) = G2 at HS2 HSM hfe
          obtain ⟨m, hm⟩ : ∃ m, G1.length = m := ⟨_, rfl⟩
          rw [hm] at HS1 hfe
          rw [← hfe] at HS2
          clear hfe hm
          have hCC : Hid (∀ W, Mix.Ex wr W → (W.cell? ⟨B5, 0, none⟩ = some (.int .i64 sR.x0) ∧ W.cell? ⟨B5, 1, none⟩ = some (.int .i64 sR.y0) ∧ W.cell? ⟨B5, 2, none⟩ = some (.int .i64 sR.x1) ∧ W.cell? ⟨B5, 3, none⟩ = some (.int .i64 sR.y1))) :=
            Lib.hid fun W h => ⟨by rw [cellOf (h.obj HB5.out)]; rfl, by rw [cellOf (h.obj HB5.out)]; rfl, by rw [cellOf (h.obj HB5.out)]; rfl, by rw [cellOf (h.obj HB5.out)]; rfl⟩
          go_upto_region 15 with (fail)
          have hx1 := (Mix.Ex.refl wr).drewN 1
          have HC := hCC.out _ hx1
          refine wp_region_K (fun W => W.cell? ⟨B5, 0, none⟩ = some (.int .i64 sR.x0) ∧ W.cell? ⟨B5, 1, none⟩ = some (.int .i64 sR.y0) ∧ W.cell? ⟨B5, 2, none⟩ = some (.int .i64 sR.x1) ∧ W.cell? ⟨B5, 3, none⟩ = some (.int .i64 sR.y1)) 14 (by kernel_rfl) ?_
          change wpAnyK _ _ _ _ _ 15 (Array.replicate 15 false) _ _
          (refine wpAnyK_take (i := 0) (oi := ?_) (v := ?_) ?_ ?_ ?_ ?_ ?_ ?_ ?_ ?_ ?_; rotate_left 2; (focus (simp only [List.getElem?_toArray, List.getElem?_cons_zero, List.getElem?_cons_succ]; rfl)); (focus kernel_rfl); (focus kernel_rfl); (focus kernel_rfl); (focus kernel_rfl); (focus exact fun _ _ _ h => h); (focus (refine Or.inl ⟨by rfl, ?_⟩; intro W hW; (try dsimp only at hW); go_simp; try with_reducible rfl)); (focus exact HC); (try simp only [Act.put, List.setIfInBounds_toArray, List.set_cons_zero, List.set_cons_succ]))
          (refine wpAnyK_take (i := 1) (oi := ?_) (v := ?_) ?_ ?_ ?_ ?_ ?_ ?_ ?_ ?_ ?_; rotate_left 2; (focus (simp only [List.getElem?_toArray, List.getElem?_cons_zero, List.getElem?_cons_succ]; rfl)); (focus kernel_rfl); (focus kernel_rfl); (focus kernel_rfl); (focus kernel_rfl); (focus exact fun _ _ _ h => h); (focus (refine Or.inl ⟨by rfl, ?_⟩; intro W hW; (try dsimp only at hW); go_simp; try with_reducible rfl)); (focus exact HC); (try simp only [Act.put, List.setIfInBounds_toArray, List.set_cons_zero, List.set_cons_succ]))
          (refine wpAnyK_take (i := 3) (oi := ?_) (v := ?_) ?_ ?_ ?_ ?_ ?_ ?_ ?_ ?_ ?_; rotate_left 2; (focus (simp only [List.getElem?_toArray, List.getElem?_cons_zero, List.getElem?_cons_succ]; rfl)); (focus kernel_rfl); (focus kernel_rfl); (focus kernel_rfl); (focus kernel_rfl); (focus exact fun _ _ _ h => h); (focus (refine Or.inl ⟨by rfl, ?_⟩; intro W hW; (try dsimp only at hW); go_simp; try with_reducible rfl)); (focus exact HC); (try simp only [Act.put, List.setIfInBounds_toArray, List.set_cons_zero, List.set_cons_succ]))
          (refine wpAnyK_take (i := 4) (oi := ?_) (v := ?_) ?_ ?_ ?_ ?_ ?_ ?_ ?_ ?_ ?_; rotate_left 2; (focus (simp only [List.getElem?_toArray, List.getElem?_cons_zero, List.getElem?_cons_succ]; rfl)); (focus kernel_rfl); (focus kernel_rfl); (focus kernel_rfl); (focus kernel_rfl); (focus exact fun _ _ _ h => h); (focus (refine Or.inl ⟨by rfl, ?_⟩; intro W hW; (try dsimp only at hW); go_simp; try with_reducible rfl)); (focus exact HC); (try simp only [Act.put, List.setIfInBounds_toArray, List.set_cons_zero, List.set_cons_succ]))
          clear HC
          generalize wr.drewN 1 = w8 at hx1 ⊢
          (refine wpAnyK_one (i := 2) (o := ?_) ?_ ?_ ?_ (fun K hK => ?_); rotate_left 1; (focus kernel_rfl); (focus (simp only [List.getElem?_toArray, List.getElem?_cons_zero, List.getElem?_cons_succ]; rfl)); (focus rfl))
          go_simp
          refine (HS1.out _ hx1).mono ?_
          rintro e w9 ⟨g9, c9, rfl, hr9, hx9⟩
          have hx19 := hx1.trans hx9
          refine hK _ _ (fun _ => hCC.out _ hx19) ?_
          clear hK K
          (try simp only [Act.put, List.setIfInBounds_toArray, List.set_cons_zero, List.set_cons_succ])
          (refine wpAnyK_one (i := 5) (o := ?_) ?_ ?_ ?_ (fun K hK => ?_); rotate_left 1; (focus kernel_rfl); (focus (simp only [List.getElem?_toArray, List.getElem?_cons_zero, List.getElem?_cons_succ]; rfl)); (focus rfl))
          go_simp
          refine (HS2.out _ hx19).mono ?_
          rintro e w10 ⟨g10, c10, rfl, hr10, hx10⟩
          have hx110 := hx19.trans hx10
          have hSm := HSM.out w10 _ _ _ _ (hr9.ex hx10) hr10
          refine hK _ _ (fun _ => hCC.out _ hx110) ?_
          clear hK K hr9 hr10
          (try simp only [Act.put, List.setIfInBounds_toArray, List.set_cons_zero, List.set_cons_succ])
          (refine wpAnyK_one (i := 6) (o := ?_) ?_ ?_ ?_ (fun K hK => ?_); rotate_left 1; (focus kernel_rfl); (focus (simp only [List.getElem?_toArray, List.getElem?_cons_zero, List.getElem?_cons_succ]; rfl)); (focus rfl))
          go_simp
          refine hSm.mono ?_
          rintro e w11 ⟨rfl, hx11⟩
          have hx111 := hx110.trans hx11
          refine hK _ _ (fun _ => hCC.out _ hx111) ?_
          clear hK K hSm
          (try simp only [Act.put, List.setIfInBounds_toArray, List.set_cons_zero, List.set_cons_succ])
          have HC := hCC.out _ hx111
          (refine wpAnyK_one (i := 7) (o := ?_) ?_ ?_ ?_ (fun K hK => ?_); rotate_left 1; (focus kernel_rfl); (focus (simp only [List.getElem?_toArray, List.getElem?_cons_zero, List.getElem?_cons_succ]; rfl)); (focus rfl))
          go_simp
          refine hK _ _ (fun _ => HC) ?_
          clear hK K
          (try simp only [Act.put, List.setIfInBounds_toArray, List.set_cons_zero, List.set_cons_succ])
          (refine wpAnyK_take (i := 8) (oi := ?_) (v := ?_) ?_ ?_ ?_ ?_ ?_ ?_ ?_ ?_ ?_; rotate_left 2; (focus (simp only [List.getElem?_toArray, List.getElem?_cons_zero, List.getElem?_cons_succ]; rfl)); (focus kernel_rfl); (focus kernel_rfl); (focus kernel_rfl); (focus kernel_rfl); (focus exact fun _ _ _ h => h); (focus (refine Or.inl ⟨by rfl, ?_⟩; intro W hW; (try dsimp only at hW); go_simp; try with_reducible rfl)); (focus exact HC); (try simp only [Act.put, List.setIfInBounds_toArray, List.set_cons_zero, List.set_cons_succ]))
          (refine wpAnyK_take (i := 10) (oi := ?_) (v := ?_) ?_ ?_ ?_ ?_ ?_ ?_ ?_ ?_ ?_; rotate_left 2; (focus (simp only [List.getElem?_toArray, List.getElem?_cons_zero, List.getElem?_cons_succ]; rfl)); (focus kernel_rfl); (focus kernel_rfl); (focus kernel_rfl); (focus kernel_rfl); (focus exact fun _ _ _ h => h); (focus (refine Or.inl ⟨by rfl, ?_⟩; intro W hW; (try dsimp only at hW); go_simp; try with_reducible rfl)); (focus exact HC); (try simp only [Act.put, List.setIfInBounds_toArray, List.set_cons_zero, List.set_cons_succ]))
          (refine wpAnyK_take (i := 11) (oi := ?_) (v := ?_) ?_ ?_ ?_ ?_ ?_ ?_ ?_ ?_ ?_; rotate_left 2; (focus (simp only [List.getElem?_toArray, List.getElem?_cons_zero, List.getElem?_cons_succ]; rfl)); (focus kernel_rfl); (focus kernel_rfl); (focus kernel_rfl); (focus kernel_rfl); (focus exact fun _ _ _ h => h); (focus (refine Or.inl ⟨by rfl, ?_⟩; intro W hW; (try dsimp only at hW); go_simp; try with_reducible rfl)); (focus exact HC); (try simp only [Act.put, List.setIfInBounds_toArray, List.set_cons_zero, List.set_cons_succ]))
          (refine wpAnyK_oneW (i := 9) (o := ?_) ?_ ?_ ?_ (fun K hK => ?_); rotate_left 1; (focus kernel_rfl); (focus (simp only [List.getElem?_toArray, List.getElem?_cons_zero, List.getElem?_cons_succ]; rfl)); (focus rfl))
          go_simp
          refine (HLN.out _ hx111).mono ?_
          rintro e w12 ⟨rfl, hx12⟩
          have hx112 := hx111.trans hx12
          clear HC
          have HC := hCC.out _ hx112
          refine hK _ _ (fun _ => HC) ?_
          clear hK K
          (try simp only [Act.put, List.setIfInBounds_toArray, List.set_cons_zero, List.set_cons_succ])
          (refine wpAnyK_take (i := 12) (oi := ?_) (v := ?_) ?_ ?_ ?_ ?_ ?_ ?_ ?_ ?_ ?_; rotate_left 2; (focus (simp only [List.getElem?_toArray, List.getElem?_cons_zero, List.getElem?_cons_succ]; rfl)); (focus kernel_rfl); (focus kernel_rfl); (focus kernel_rfl); (focus kernel_rfl); (focus exact fun _ _ _ h => h); (focus (refine Or.inl ⟨by rfl, ?_⟩; intro W hW; (try dsimp only at hW); go_simp; try with_reducible rfl)); (focus exact HC); (try simp only [Act.put, List.setIfInBounds_toArray, List.set_cons_zero, List.set_cons_succ]))
          (refine wpAnyK_take (i := 13) (oi := ?_) (v := ?_) ?_ ?_ ?_ ?_ ?_ ?_ ?_ ?_ ?_; rotate_left 2; (focus (simp only [List.getElem?_toArray, List.getElem?_cons_zero, List.getElem?_cons_succ]; rfl)); (focus kernel_rfl); (focus kernel_rfl); (focus kernel_rfl); (focus kernel_rfl); (focus exact fun _ _ _ h => h); (focus (refine Or.inl ⟨by rfl, ?_⟩; intro W hW; (try dsimp only at hW); go_simp; try with_reducible rfl)); (focus exact HC); (try simp only [Act.put, List.setIfInBounds_toArray, List.set_cons_zero, List.set_cons_succ]))
          (refine wpAnyK_one (i := 14) (o := ?_) ?_ ?_ ?_ (fun K hK => ?_); rotate_left 1; (focus kernel_rfl); (focus (simp only [List.getElem?_toArray, List.getElem?_cons_zero, List.getElem?_cons_succ]; rfl)); (focus rfl))
          go_simp
          refine hK _ _ (fun _ => HC) ?_
          clear hK K HC
          refine wpAnyK_done (by kernel_rfl) ?_ _
          go_wp2_with fail
          go_ret
          exact ⟨rfl, HXW.out.trans hx112⟩
        obtain ⟨ix, rfl⟩ : ∃ ix : Nat, z = ix := ⟨z.toNat, by omega⟩
        have hix : ix < A0.length := by have := HAL.out; omega
        obtain ⟨st, hst⟩ : ∃ st, A0[ix]? = some st := ⟨A0[ix], List.getElem?_eq_getElem _⟩
        obtain ⟨c0, c1, c2, c3, c4, c5, c6, c7, c8, c9, c10⟩ := row_cells11 hrs hst
        have hrv : A0.reverse[kk]? = some st := by
          rw [List.getElem?_reverse (by have := HAL.out; omega)]
          rw [show A0.length - 1 - kk = ix by have := HAL.out; omega]
          exact hst
        have hsn : A0.reverse.take (kk + 1) = A0.reverse.take kk ++ [st] := takeN_snoc hrv
        have hll : (A0.reverse.take kk).length = kk := by rw [List.length_take, List.length_reverse]; have := HAL.out; omega
        have hix' : ix < jj := by have := HAL.out; omega
        have HSN := Lib.hid hsn
        have HLL := Lib.hid hll
        have HZ := Lib.hid hz
        have hbs := hx.below.size
        have hnb : Value.ownBlock (.slice (some ⟨gb, 0, none⟩) kk cb) ≠ some B5 := Row.ne_block hrb hb5 (by decide)
        have HNB2 := Lib.hid hnb
        have hxb := (Mix.Ex.refl wr).alloc (.cells (stepV st).toArray 37)
        have hrbB := hrb.ex hxb
        have HRSB := Lib.hid (hrs.ex hxb)
        have HB5B := Lib.hid (hxb.obj hb5)
        have HXB := Lib.hid (hx.trans hxb)
        have HNE := Lib.hid hne
        have hgw := (hrs.lt gs rfl).2
        clear hsn hll hnb hst hrv hrb hrs hne hb5 hx hxb hz hix
        generalize A0.reverse.take kk = A1 at hrbB HSN HLL
        go_wp2_with (at_builtin; refine wpList_append_row _ rfl (.tmp 47) (.tmp 52) 23 rfl BE 37 i0 _ 11 88 Try.underlying23 hi0 hz0 hz1 hz2 rfl (by omega) stepV (.slice (some ⟨gb, 0, none⟩) kk cb) A1 st rfl hrbB ⟨wr.heap.size, 0, none⟩ 1 rfl (World.news_of_block (heap_alloc_new _ _)) (stepV_one _) (by rw [HLL.out]; unfold maxLen; omega) (by rw [HLL.out]; omega) (by simp; omega) ?_; intro g2 cap2 w6 hrow6 hgrow hat2 hlt2)
        have hx6 := HXB.out.grown hgrow (fun j hj => by have := (hrbB.lt j hj).1; omega)
        rw [HLL.out, ← HSN.out] at hrow6
        have hrs6 := HRSB.out.kept hgrow (.inr (by simp only [Value.ownBlock, ne_eq, Option.some.injEq]; exact HNE.out))
        have hb6 := grown_keep hgrow HB5B.out HNB2.out
        have hne6 : gs ≠ g2 := by
          rcases hat2 with h2 | h2
          · simp only [Value.ownBlock, Option.some.injEq] at h2
            rw [← h2]; exact HNE.out
          · intro e; simp at h2; omega
        rw [HLL.out]
        go_wp2_with fail
        go_roundw
        case measure => first | (simp [intOf]; done) | (simp [intOf]; omega)
        case rel => exact ⟨kk + 1, g2, cap2, (ix : Int) - 1, by omega, by go_num, by have := HZ.out; omega, rfl, hrow6, hrs6, hne6, hb6, hx6⟩
    obtain ⟨st, hst⟩ : ∃ st, S[jj]? = some st := ⟨S[jj]'(by have := HN.out; omega), List.getElem?_eq_getElem _⟩
    obtain ⟨c0, c1, c2, c3, c4, c5, c6, c7, c8, c9, c10⟩ := row_cells11 hrs hst
    have hsn : (S.take (jj + 1)).map ins0 = (S.take jj).map ins0 ++ [ins0 st] := by rw [takeN_snoc hst]; simp
    have hll : ((S.take jj).map ins0).length = jj := by rw [List.length_map, List.length_take]; have := HN.out; omega
    have HSN := Lib.hid hsn
    have HLL := Lib.hid hll
    have hbs := hx.below.size
    have hnb : Value.ownBlock (.slice (some ⟨gs, 0, none⟩) jj cs) ≠ some B5 := Row.ne_block hru hb5 (by decide)
    have HNB := Lib.hid hnb
    clear hsn hll hnb hst
    generalize (S.take jj).map ins0 = A0 at hru HSN HLL
    go_upto_region 8 with (fail)
    have n1 := heap_alloc_new wr (.cells (stepV (ins0 st)).toArray 37)
    have hxa := (Mix.Ex.refl wr).alloc (.cells (stepV (ins0 st)).toArray 37)
    change Code.wp _ _ _ _ (wr.alloc (.cells (stepV (ins0 st)).toArray 37))
    generalize hB1 : wr.heap.size = B1 at n1 hbs ⊢
    generalize (wr.alloc (.cells (stepV (ins0 st)).toArray 37)) = w5 at n1 hxa ⊢
    clear c0 c1 c2 c3 c4 c5 c6 c7 c8 c9 c10
    have hb1 := (Array.getElem?_eq_some_iff.1 n1).1
    have c0 := cellOf n1 0
    have c1 := cellOf n1 1
    have c2 := cellOf n1 2
    have c3 := cellOf n1 3
    have c4 := cellOf n1 4
    have c5 := cellOf n1 5
    have c6 := cellOf n1 6
    have c7 := cellOf n1 7
    have c8 := cellOf n1 8
    have c9 := cellOf n1 9
    have c10 := cellOf n1 10
    simp only [stepV, ins0, List.getElem?_toArray, List.getElem?_cons_zero, List.getElem?_cons_succ] at c0 c1 c2 c3 c4 c5 c6 c7 c8 c9 c10
    have hxb := hxa.alloc (.cells (stepV (ins0 st)).toArray 37)
    have hruB := hru.ex hxb
    have hgs2 := (hruB.lt gs rfl).2
    have HRSB := Lib.hid (hrs.ex hxb)
    have HB5B := Lib.hid (hxb.obj hb5)
    have HXB := Lib.hid (hx.trans hxb)
    have HNE := Lib.hid hne
    have hgw := ((hrs.ex hxb).lt g rfl).2
    clear hru hrs hne hb5 hx hxa n1 hxb
    go_wp2_with (at_builtin; refine wpList_append_row _ rfl (.tmp 34) (.tmp 36) 23 rfl BE 37 i0 _ 11 88 Try.underlying23 hi0 hz0 hz1 hz2 rfl (by omega) stepV (.slice (some ⟨gs, 0, none⟩) jj cs) A0 (ins0 st) rfl hruB ⟨w5.heap.size, 0, none⟩ 1 rfl (World.news_of_block (heap_alloc_new _ _)) (stepV_one _) (by rw [HLL.out]; unfold maxLen; omega) (by rw [HLL.out]; omega) (by simp; omega) ?_; intro g2 cap2 w6 hrow6 hgrow hat2 hlt2)
    have hx6 := HXB.out.grown hgrow (fun j hj => by have := (hruB.lt j hj).1; omega)
    rw [HLL.out, ← HSN.out] at hrow6
    have hrs6 := HRSB.out.kept hgrow (.inr (by simp only [Value.ownBlock, ne_eq, Option.some.injEq]; exact HNE.out))
    have hb6 := grown_keep hgrow HB5B.out HNB.out
    have hne6 : g ≠ g2 := by
      rcases hat2 with h2 | h2
      · simp only [Value.ownBlock, Option.some.injEq] at h2
        rw [← h2]; exact HNE.out
      · intro e; simp at h2 hgw; omega
    rw [HLL.out]
    go_roundw
    case measure => simp [intOf]; omega
    case rel => exact ⟨jj + 1, g2, cap2, by omega, by go_num, rfl, hrow6, hrs6, hne6, hb6, hx6⟩
end Go.Proofs.Ytboeldlilkeihaa
