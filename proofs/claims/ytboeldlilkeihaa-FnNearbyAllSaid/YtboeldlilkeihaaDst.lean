/- The contract of Dists: the distances of items from a box, in order. -/
import Derived.Test.YtboeldlilkeihaaSame
import Derived.Test.YtboeldlilkeihaaNrb
import Derived.Test.YtboeldlilkeihaaColl
set_option linter.unusedSimpArgs false
set_option linter.unusedVariables false
namespace Go.Bx
def SrtN (L : List Nat) : Prop := L.Pairwise (· ≤ ·)
/-- A number on its way down to its place. -/
structure DnN (S : List Nat) (x : Nat) (k : Nat) (M : List Nat) : Prop where
  wit : ∃ A B, M = A ++ x :: B ∧ A.length = k ∧ A ++ B = S ∧ SrtN S ∧ ∀ b ∈ B, x < b
theorem DnN.start {S : List Nat} (h : SrtN S) (x : Nat) : DnN S x S.length (S ++ [x]) := ⟨S, [], rfl, rfl, by simp, h, by simp⟩
theorem DnN.len {S : List Nat} {x : Nat} {k : Nat} {M : List Nat} (h : DnN S x k M) : M.length = S.length + 1 ∧ k ≤ S.length := by
  obtain ⟨A, B, rfl, rfl, rfl, _, _⟩ := h.wit
  simp only [List.length_append, List.length_cons]; omega
theorem DnN.at {S : List Nat} {x : Nat} {k : Nat} {M : List Nat} (h : DnN S x k M) : M[k]? = some x := by
  obtain ⟨A, B, rfl, rfl, rfl, _, _⟩ := h.wit
  simp
theorem DnN.perm {S : List Nat} {x : Nat} {k : Nat} {M : List Nat} (h : DnN S x k M) : M.Perm (x :: S) := by
  obtain ⟨A, B, rfl, rfl, rfl, _, _⟩ := h.wit
  exact List.perm_middle
theorem DnN.zero {S : List Nat} {x : Nat} {M : List Nat} (h : DnN S x 0 M) : SrtN M := by
  obtain ⟨A, B, rfl, hk, rfl, hs, hb⟩ := h.wit
  have : A = [] := List.length_eq_zero_iff.1 hk
  subst this
  exact List.pairwise_cons.2 ⟨fun b h => Nat.le_of_lt (hb b h), hs⟩
theorem DnN.prev {S : List Nat} {x : Nat} {k : Nat} {M : List Nat} (h : DnN S x (k + 1) M) : ∃ y, M[k]? = some y ∧ (¬ x < y → SrtN M) ∧ (x < y → DnN S x k ((M.set (k + 1) y).set k x)) := by
  obtain ⟨A, B, rfl, hk, rfl, hs, hb⟩ := h.wit
  rcases List.eq_nil_or_concat A with rfl | ⟨A, y, rfl⟩
  · simp at hk
  have hk : A.length = k := by simpa using hk
  subst hk
  refine ⟨y, by simp, fun hn => ?_, fun hl => ?_⟩
  · unfold SrtN at hs ⊢
    simp only [List.concat_eq_append] at hs ⊢
    rw [List.pairwise_append] at hs ⊢
    obtain ⟨h1, h2, h3⟩ := hs
    refine ⟨h1, List.pairwise_cons.2 ⟨fun b h => Nat.le_of_lt (hb b h), h2⟩, ?_⟩
    intro a ha b hb'
    have hay : a ≤ y := by
      rcases List.mem_append.1 ha with h | h
      · exact (List.pairwise_append.1 h1).2.2 a h y (by simp)
      · simp at h; subst h; exact Nat.le_refl _
    rcases List.mem_cons.1 hb' with rfl | hb'
    · omega
    · exact h3 a ha b hb'
  · refine ⟨A, y :: B, ?_, rfl, by simp, hs, ?_⟩
    · simp only [List.concat_eq_append, List.append_assoc, List.singleton_append]
      rw [List.set_append_right _ _ (by omega), show A.length + 1 - A.length = 1 by omega]
      rw [List.set_append_right _ _ (by omega), Nat.sub_self]
      rfl
    · intro b h
      rcases List.mem_cons.1 h with rfl | h
      · exact hl
      · exact hb b h
end Go.Bx
namespace Go.Proofs.Ytboeldlilkeihaa
open Go.RowKit Go.Bx
def nD (n : Nat) : List Value := [.int .i64 (n : Int)]
theorem nD_len (x : Nat) : (nD x).length = 1 := rfl
theorem nD_one (x : Nat) : ∀ u ∈ nD x, u.oneCell' = true := by
  intro u hu
  simp [nD] at hu
  subst hu; rfl
theorem row_cell1 {w : World} {b0 g n cap k : Nat} {T : TypeId} {L : List Nat} {y : Nat} (h : w.Row b0 T 1 nD (.slice (some ⟨g, 0, none⟩) n cap) L) (hk : L[k]? = some y) : w.cell? ⟨g, k, none⟩ = some (.int .i64 (y : Int)) := by
  have := h.cell (j := 0) hk rfl
  simpa using this
theorem Row.setN {w : World} {b0 g n cap : Nat} {L : List Nat} (h : w.Row b0 3 1 nD (.slice (some ⟨g, 0, none⟩) n cap) L) (hn : L.length = n) {k : Nat} (hk : k < n) (y : Nat) :
    (w.setCell ⟨g, k, none⟩ (.int .i64 (y : Int))).Row b0 3 1 nD (.slice (some ⟨g, 0, none⟩) n cap) (L.set k y) := by
  subst hn
  have hlen : (L.set k y).length = L.length := List.length_set
  refine ⟨nD_len, flat_len nD 1 nD_len _, ?_⟩
  rcases h.own.2 with ⟨h1, _⟩ | ⟨g', cap', cur, h0, h1, h2, h3, h4, h5, h6⟩
  · cases h1
  cases h0
  have o := setCell_obj h2 k (.int .i64 (y : Int))
  refine .inr ⟨g, cap, _, by rw [hlen], h1, o, by omega, h4, by simpa using h5, ?_⟩
  rw [hlen]
  apply List.ext_getElem?
  intro i
  rcases Nat.lt_or_ge i (L.length * 1) with hi | hi
  · rw [List.getElem?_take_of_lt hi, Array.getElem?_toList]
    have hq : i = i * 1 + 0 := by omega
    have hcs : L.length * 1 ≤ cur.size := by rw [h5]; exact Nat.mul_le_mul_right _ h3
    have e1 : (L.flatMap nD)[i]? = cur[i]? := by
      rw [← h6, List.getElem?_take_of_lt hi, Array.getElem?_toList]
    rw [Array.getElem?_setIfInBounds]
    by_cases hqk : k = i
    · have e2 : ((L.set k y).flatMap nD)[i]? = (nD y)[0]? := by
        have := flat_get nD 1 nD_len (L.set k y) i 0 y (by rw [hqk, List.getElem?_set_self (by omega)]) (by omega)
        simpa using this
      rw [e2, if_pos hqk, if_pos (by omega)]; rfl
    · obtain ⟨z, hz⟩ : ∃ z, L[i]? = some z := ⟨L[i]'(by omega), List.getElem?_eq_getElem _⟩
      have e2 : ((L.set k y).flatMap nD)[i]? = (nD z)[0]? := by
        have := flat_get nD 1 nD_len (L.set k y) i 0 z (by rw [List.getElem?_set_ne hqk]; exact hz) (by omega)
        simpa using this
      have e3 : (L.flatMap nD)[i]? = (nD z)[0]? := by
        have := flat_get nD 1 nD_len L i 0 z hz (by omega)
        simpa using this
      rw [if_neg hqk, e2, ← e3, e1]
  · rw [List.getElem?_eq_none (by simp; omega), List.getElem?_eq_none (by rw [flat_len nD 1 nD_len, hlen]; exact hi)]
set_option maxRecDepth 100000 in
set_option maxHeartbeats 3200000 in
theorem dists_c (w : World) (b0 : Nat) (v : Value) (L : List (R × Int)) (b : R) (hr : w.Row b0 35 5 itemV v L) (hm : L.length ≤ 900000) (hL : ∀ x ∈ L, x.1.small ∧ x.1.ok) (hb : b.small ∧ b.ok) :
    Calls Try.prog 25 #[v, .agg #[.int .i64 b.x0, .int .i64 b.y0, .int .i64 b.x1, .int .i64 b.y1]] w fun e w' => ∃ (M : List Nat) (g cap : Nat), e = .returned (.slice (some ⟨g, 0, none⟩) L.length cap) ∧ w'.Row w.heap.size 3 1 nD (.slice (some ⟨g, 0, none⟩) L.length cap) M ∧ M.Perm (L.map fun x => dst b x.1) ∧ SrtN M ∧ Mix.Ex w w' := by
  obtain ⟨i0, hi0, hz0, hz1, hz2⟩ := info_parts info_int
  obtain ⟨o, cap0, rfl, ho⟩ := hr.slice
  obtain ⟨n, hn⟩ : ∃ n, L.length = n := ⟨_, rfl⟩
  rw [hn] at hr hm ho ⊢
  obtain ⟨B, hB⟩ : ∃ B, w.heap.size = B := ⟨_, rfl⟩
  have HN := Lib.hid hn
  have HR := Lib.hid hr
  have HLS := Lib.hid hL
  have HBS := Lib.hid hb
  clear hn hr hL hb
  have hxa := ((Mix.Ex.refl w).alloc (.cells (boxV b).toArray 30)).alloc (.cells #[] 3)
  have n3 := ((Mix.Ex.refl (w.alloc (.cells (boxV b).toArray 30))).alloc (.cells #[] 3)).obj (heap_alloc_new w (.cells (boxV b).toArray 30))
  have n5 := heap_alloc_new (w.alloc (.cells (boxV b).toArray 30)) (.cells #[] 3)
  rw [World.size_alloc] at n5
  rw [hB] at n3 n5
  have N3 := Lib.hid n3
  have N5 := Lib.hid n5
  have HXA := Lib.hid hxa
  clear n3 n5 hxa
  go_enter Try.func25, Try.ntmps25
  go_upto_region 3 with (fail)
  change Code.wp _ _ _ _ ((w.alloc (.cells (boxV b).toArray 30)).alloc (.cells #[] 3))
  generalize ((w.alloc (.cells (boxV b).toArray 30)).alloc (.cells #[] 3)) = w1 at N3 N5 HXA ⊢
  go_loopw [5, 12] (fun v i wr => ∃ kk g cap : Nat, kk ≤ n ∧ i = .int .i64 kk ∧ v = .slice (some ⟨g, 0, none⟩) kk cap ∧ (∃ M, wr.Row (B + 1) 3 1 nD (.slice (some ⟨g, 0, none⟩) kk cap) M ∧ M.Perm ((L.map fun x => dst b x.1).take kk) ∧ SrtN M) ∧ wr.heap[B]? = some (.cells (boxV b).toArray 30 (0, 0)) ∧ Mix.Ex w wr) (fun _ i _ => n - (intOf i).toNat)
  case atStart =>
    exact ⟨0, B + 1, 0, by omega, rfl, rfl, ⟨[], .made nD_len (B + 1) (by omega) N5.out, List.Perm.nil, List.Pairwise.nil⟩, N3.out, HXA.out⟩
  case round =>
    obtain ⟨kk, g, cap, hk, rfl, rfl, ⟨M, hrow, hperm, hsrt⟩, hbb, hx⟩ := hrel
    have hml : M.length = kk := by rw [hperm.length_eq, List.length_take, List.length_map]; have := HN.out; omega
    have HML := Lib.hid hml
    have HPERM := Lib.hid hperm
    have HSRT := Lib.hid hsrt
    clear hml hperm hsrt
    by_cases hlt : kk < n
    case neg =>
      have e : (L.map fun x => dst b x.1).take kk = L.map fun x => dst b x.1 := List.take_of_length_le (by rw [List.length_map]; have := HN.out; omega)
      have hkn : kk = n := by omega
      subst hkn
      go_wp2_with fail
      go_ret
      refine ⟨M, g, cap, rfl, ⟨hrow.len, ?_⟩, by rw [← e]; exact HPERM.out, HSRT.out, hx⟩
      exact ⟨hrow.own.1, hrow.own.2.imp id fun ⟨g', c', cur, h1, h2, h3⟩ => ⟨g', c', cur, h1, by omega, h3⟩⟩
    obtain ⟨g0, rfl⟩ := ho (by omega)
    obtain ⟨y, hy⟩ : ∃ y, L[kk]? = some y := ⟨L[kk]'(by have := HN.out; omega), List.getElem?_eq_getElem _⟩
    obtain ⟨l0, l1, l2, l3, l4⟩ := row_cells5 (HR.out.ex hx) hy
    obtain ⟨d0, hd0⟩ : ∃ d0, dst b y.1 = d0 := ⟨_, rfl⟩
    have hsn : (L.map fun x => dst b x.1).take (kk + 1) = (L.map fun x => dst b x.1).take kk ++ [d0] := takeN_snoc (by rw [List.getElem?_map, hy, ← hd0]; rfl)
    have hys := HLS.out y (List.mem_of_getElem? hy)
    have HSN := Lib.hid hsn
    have hbs := hx.below.size
    clear hsn hy
    have hxy := (Mix.Ex.refl wr).alloc (.cells (itemV y).toArray 35)
    have n7 := heap_alloc_new wr (.cells (itemV y).toArray 35)
    have hb7 := hxy.obj hbb
    have hrow7 := hrow.ex hxy
    have hx7 := hx.trans hxy
    go_upto_region 5 with (fail)
    change Code.wp _ _ _ _ (wr.alloc (.cells (itemV y).toArray 35))
    generalize hB7 : wr.heap.size = B7 at n7 ⊢
    generalize (wr.alloc (.cells (itemV y).toArray 35)) = w7 at hxy n7 hb7 hrow7 hx7 ⊢
    clear l0 l1 l2 l3 l4 hxy hbb hrow hx
    have k0 := cellOf n7 0
    have k1 := cellOf n7 1
    have k2 := cellOf n7 2
    have k3 := cellOf n7 3
    have q0 := cellOf hb7 0
    have q1 := cellOf hb7 1
    have q2 := cellOf hb7 2
    have q3 := cellOf hb7 3
    simp only [itemV, boxV, List.getElem?_toArray, List.getElem?_cons_zero, List.getElem?_cons_succ] at k0 k1 k2 k3 q0 q1 q2 q3
    clear n7
    go_wp2_with fail
    refine (specDist_c _ y.1 b hys.1 HBS.out.1 hys.2 HBS.out.2).mono ?_
    rintro e w8 ⟨rfl, hx8⟩
    have hdv : y.1.boxDist b = (d0 : Int) := by rw [boxDist_comm, ← dst_int, hd0]
    rw [hdv]
    have hrow8 := (hrow7.ex hx8).ex ((Mix.Ex.refl w8).alloc (.cells (nD d0).toArray 3))
    have hb8 := ((Mix.Ex.refl w8).alloc (.cells (nD d0).toArray 3)).obj (hx8.obj hb7)
    have hx8' := (hx7.trans hx8).alloc (.cells (nD d0).toArray 3)
    have hsz8 := (hx7.trans hx8).below.size
    clear k0 k1 k2 k3 q0 q1 q2 q3 hx8 hrow7 hb7 hx7
    go_wp2_with (at_builtin; refine wpList_append_row _ rfl (.tmp 16) (.tmp 21) 43 rfl (B + 1) 3 i0 _ 1 8 Try.underlying43 hi0 hz0 hz1 hz2 rfl (by omega) nD (.slice (some ⟨g, 0, none⟩) kk cap) M d0 rfl hrow8 ⟨w8.heap.size, 0, none⟩ 1 rfl (World.news_of_block (cs := (nD d0).toArray) (heap_alloc_new _ _)) (nD_one d0) (by rw [HML.out]; unfold maxLen; omega) (by rw [HML.out]; omega) (by simp; omega) ?_; intro g2 cap2 w3 hrow3 hgrow hat2 hlt2; rw [HML.out] at hrow3 ⊢)
    have hx3 := hx8'.grown hgrow (fun j hj => by have := (hrow8.lt j hj).1; omega)
    have hbb3 := grown_keep hgrow hb8 (fun e => by have := (hrow8.lt _ e).1; omega)
    have hd0' := DnN.start HSRT.out d0
    rw [HML.out] at hd0'
    have HX3 := Lib.hid hx3
    have HBB := Lib.hid hbb3
    have HD0 := Lib.hid hd0'
    have HROW3 := Lib.hid hrow3
    clear hrow8 hgrow hat2 hx3 hd0' hrow3 hb8 hx8' hbb3 hdv
    have i1 : ((kk + 1 : Nat) : Int) - 1 = kk := by omega
    go_upto_region 7 with (fail)
    clear i1
    go_loopw [8] (fun i wr => ∃ j : Nat, j ≤ kk ∧ i = .int .i64 j ∧ (∃ M', wr.Row (B + 1) 3 1 nD (.slice (some ⟨g2, 0, none⟩) (kk + 1) cap2) M' ∧ DnN M d0 j M') ∧ wr.heap[B]? = some (.cells (boxV b).toArray 30 (0, 0)) ∧ Mix.Ex w wr) (fun i _ => (intOf i).toNat)
    case atStart => exact ⟨kk, Nat.le_refl _, rfl, ⟨_, HROW3.out, HD0.out⟩, HBB.out, HX3.out⟩
    case round =>
      obtain ⟨j, hj, rfl, ⟨M', hrow', hdn⟩, hbb, hx⟩ := hrel
      have HB0 := Lib.hid hbb
      clear hbb
      have hml' : M'.length = kk + 1 := by rw [hdn.len.1, HML.out]
      have hpm : M'.Perm ((L.map fun x => dst b x.1).take (kk + 1)) := by
        rw [HSN.out]
        exact (hdn.perm.trans (HPERM.out.cons d0)).trans (List.perm_append_singleton _ _).symm
      have HPM := Lib.hid hpm
      have HML' := Lib.hid hml'
      clear hpm hml'
      by_cases hj0 : j = 0
      · subst hj0
        have hs := hdn.zero
        have HS := Lib.hid hs
        clear hdn hs
        go_upto_region 7 with (fail)
        (refine Mix.wp_region_dr (by kernel_rfl) (by kernel_rfl) ?_; (repeat (go_big_quiet_step (fail))); refine wpQuiet_nil ?_; intro nq)
        have HROW' := Lib.hid hrow'
        have HX := Lib.hid hx
        clear hrow' hx
        go_wp2_with fail
        go_roundw
        case measure => simp [intOf]; omega
        case rel => exact ⟨kk + 1, g2, cap2, by omega, by go_num, rfl, ⟨M', HROW'.out.ex ((Mix.Ex.refl _).drewN _), HPM.out, HS.out⟩, HB0.out, HX.out.drewN _⟩
      obtain ⟨jp, hjp⟩ : ∃ jp, j = jp + 1 := ⟨j - 1, by omega⟩
      have hdn' := hdn
      rw [hjp] at hdn'
      obtain ⟨z, hz, hno, hyes⟩ := hdn'.prev
      have hy' := hdn.at
      have a0 := row_cell1 hrow' hy'
      have c0 := row_cell1 hrow' hz
      have i1 : (j : Int) - 1 = jp := by omega
      have hjlt : jp < j := by omega
      have hjpos : 0 < j := by omega
      have hg2 := (hrow'.lt g2 rfl)
      have hgw := hg2.2
      have hgB : w.heap.size ≤ g2 := by omega
      have hB0g : B ≠ g2 := by omega
      have HJP := Lib.hid hjp
      have HROW' := Lib.hid hrow'
      have HX := Lib.hid hx
      have HYES := Lib.hid hyes
      have HNO := Lib.hid hno
      have HDN := Lib.hid hdn
      have HZ := Lib.hid hz
      clear hdn' hdn hyes hno hy' hz hjp hj0 hg2
      by_cases hlt' : d0 < z
      · have hd : decide ((d0 : Int) < (z : Int)) = true := decide_eq_true (by omega)
        have HLT := Lib.hid hlt'
        go_upto_region 7 with (fail)
        clear hx hrow'
        (refine Mix.wp_region_dr (by kernel_rfl) (by kernel_rfl) ?_; (repeat (go_big_quiet_step (fail))); refine wpQuiet_nil ?_; intro nq)
        have hrow9 := HROW'.out.ex ((Mix.Ex.refl wr).drewN nq)
        have hx9 := HX.out.drewN nq
        have hb9 : Hid ((wr.drewN nq).heap[B]? = _) := Lib.hid HB0.out
        clear a0 c0 hgw
        generalize (wr.drewN nq) = w9 at hrow9 hx9 hb9 ⊢
        go_upto_region 9 with (fail)
        have a0 := row_cell1 hrow9 HDN.out.at
        have c0 := row_cell1 hrow9 HZ.out
        have a0 : (w9.drewN 1).cell? _ = _ := a0
        have c0 : (w9.drewN 1).cell? _ = _ := c0
        have hrowA := hrow9.ex ((Mix.Ex.refl w9).drewN 1)
        have hxA := hx9.drewN 1
        have hbA : (w9.drewN 1).heap[B]? = _ := hb9.out
        clear hrow9 hx9 hb9
        have HC : True := trivial
        have hjk1 : (jp : Int) < (kk : Int) + 1 := by omega
        have hjk2 : (j : Int) < (kk : Int) + 1 := by omega
        have hwj : IntKind.i64.wrap (jp : Int) = jp := by rw [IntKind.wrap_i64]; omega
        refine wp_region_K (fun _ => True) 17 (by kernel_rfl) ?_
        change wpAnyK _ _ _ _ _ 18 (Array.replicate 18 false) _ _
        (refine wpAnyK_take (i := 0) (oi := ?_) (v := ?_) ?_ ?_ ?_ ?_ ?_ ?_ ?_ ?_ ?_; rotate_left 2; (focus (simp only [List.getElem?_toArray, List.getElem?_cons_zero, List.getElem?_cons_succ]; rfl)); (focus kernel_rfl); (focus kernel_rfl); (focus kernel_rfl); (focus kernel_rfl); (focus exact fun _ _ _ h => h); (focus (refine Or.inl ⟨by rfl, ?_⟩; intro W hW; (try dsimp only at hW); go_simp; try with_reducible rfl)); (focus exact HC); (try simp only [Act.put, List.setIfInBounds_toArray, List.set_cons_zero, List.set_cons_succ]))
        (refine wpAnyK_take (i := 1) (oi := ?_) (v := ?_) ?_ ?_ ?_ ?_ ?_ ?_ ?_ ?_ ?_; rotate_left 2; (focus (simp only [List.getElem?_toArray, List.getElem?_cons_zero, List.getElem?_cons_succ]; rfl)); (focus kernel_rfl); (focus kernel_rfl); (focus kernel_rfl); (focus kernel_rfl); (focus exact fun _ _ _ h => h); (focus (refine Or.inl ⟨by rfl, ?_⟩; intro W hW; (try dsimp only at hW); go_simp; try with_reducible rfl)); (focus exact HC); (try simp only [Act.put, List.setIfInBounds_toArray, List.set_cons_zero, List.set_cons_succ]))
        (refine wpAnyK_take (i := 2) (oi := ?_) (v := ?_) ?_ ?_ ?_ ?_ ?_ ?_ ?_ ?_ ?_; rotate_left 2; (focus (simp only [List.getElem?_toArray, List.getElem?_cons_zero, List.getElem?_cons_succ]; rfl)); (focus kernel_rfl); (focus kernel_rfl); (focus kernel_rfl); (focus kernel_rfl); (focus exact fun _ _ _ h => h); (focus (refine Or.inl ⟨by rfl, ?_⟩; intro W hW; (try dsimp only at hW); go_simp; try with_reducible rfl)); (focus exact HC); (try simp only [Act.put, List.setIfInBounds_toArray, List.set_cons_zero, List.set_cons_succ]))
        (refine wpAnyK_take (i := 3) (oi := ?_) (v := ?_) ?_ ?_ ?_ ?_ ?_ ?_ ?_ ?_ ?_; rotate_left 2; (focus (simp only [List.getElem?_toArray, List.getElem?_cons_zero, List.getElem?_cons_succ]; rfl)); (focus kernel_rfl); (focus kernel_rfl); (focus kernel_rfl); (focus kernel_rfl); (focus exact fun _ _ _ h => h); (focus (refine Or.inl ⟨by rfl, ?_⟩; intro W hW; (try dsimp only at hW); go_simp; try with_reducible rfl)); (focus exact HC); (try simp only [Act.put, List.setIfInBounds_toArray, List.set_cons_zero, List.set_cons_succ]))
        (refine wpAnyK_take (i := 4) (oi := ?_) (v := ?_) ?_ ?_ ?_ ?_ ?_ ?_ ?_ ?_ ?_; rotate_left 2; (focus (simp only [List.getElem?_toArray, List.getElem?_cons_zero, List.getElem?_cons_succ]; rfl)); (focus kernel_rfl); (focus kernel_rfl); (focus kernel_rfl); (focus kernel_rfl); (focus exact fun _ _ _ h => h); (focus (refine Or.inl ⟨by rfl, ?_⟩; intro W hW; (try dsimp only at hW); go_simp; try with_reducible rfl)); (focus exact HC); (try simp only [Act.put, List.setIfInBounds_toArray, List.set_cons_zero, List.set_cons_succ]))
        (refine wpAnyK_take (i := 5) (oi := ?_) (v := ?_) ?_ ?_ ?_ ?_ ?_ ?_ ?_ ?_ ?_; rotate_left 2; (focus (simp only [List.getElem?_toArray, List.getElem?_cons_zero, List.getElem?_cons_succ]; rfl)); (focus kernel_rfl); (focus kernel_rfl); (focus kernel_rfl); (focus kernel_rfl); (focus exact fun _ _ _ h => h); (focus (refine Or.inl ⟨by rfl, ?_⟩; intro W hW; (try dsimp only at hW); go_simp; try with_reducible rfl)); (focus exact HC); (try simp only [Act.put, List.setIfInBounds_toArray, List.set_cons_zero, List.set_cons_succ]))
        (refine wpAnyK_take (i := 6) (oi := ?_) (v := ?_) ?_ ?_ ?_ ?_ ?_ ?_ ?_ ?_ ?_; rotate_left 2; (focus (simp only [List.getElem?_toArray, List.getElem?_cons_zero, List.getElem?_cons_succ]; rfl)); (focus kernel_rfl); (focus kernel_rfl); (focus kernel_rfl); (focus kernel_rfl); (focus exact fun _ _ _ h => h); (focus (refine Or.inl ⟨by rfl, ?_⟩; intro W hW; (try dsimp only at hW); go_simp; try with_reducible rfl)); (focus exact HC); (try simp only [Act.put, List.setIfInBounds_toArray, List.set_cons_zero, List.set_cons_succ]))
        (refine wpAnyK_take (i := 7) (oi := ?_) (v := ?_) ?_ ?_ ?_ ?_ ?_ ?_ ?_ ?_ ?_; rotate_left 2; (focus (simp only [List.getElem?_toArray, List.getElem?_cons_zero, List.getElem?_cons_succ]; rfl)); (focus kernel_rfl); (focus kernel_rfl); (focus kernel_rfl); (focus kernel_rfl); (focus exact fun _ _ _ h => h); (focus (refine Or.inl ⟨by rfl, ?_⟩; intro W hW; (try dsimp only at hW); go_simp; try with_reducible rfl)); (focus exact HC); (try simp only [Act.put, List.setIfInBounds_toArray, List.set_cons_zero, List.set_cons_succ]))
        (refine wpAnyK_take (i := 8) (oi := ?_) (v := ?_) ?_ ?_ ?_ ?_ ?_ ?_ ?_ ?_ ?_; rotate_left 2; (focus (simp only [List.getElem?_toArray, List.getElem?_cons_zero, List.getElem?_cons_succ]; rfl)); (focus kernel_rfl); (focus kernel_rfl); (focus kernel_rfl); (focus kernel_rfl); (focus exact fun _ _ _ h => h); (focus (refine Or.inl ⟨by rfl, ?_⟩; intro W hW; (try dsimp only at hW); go_simp; try with_reducible rfl)); (focus exact HC); (try simp only [Act.put, List.setIfInBounds_toArray, List.set_cons_zero, List.set_cons_succ]))
        (refine wpAnyK_take (i := 10) (oi := ?_) (v := ?_) ?_ ?_ ?_ ?_ ?_ ?_ ?_ ?_ ?_; rotate_left 2; (focus (simp only [List.getElem?_toArray, List.getElem?_cons_zero, List.getElem?_cons_succ]; rfl)); (focus kernel_rfl); (focus kernel_rfl); (focus kernel_rfl); (focus kernel_rfl); (focus exact fun _ _ _ h => h); (focus (refine Or.inl ⟨by rfl, ?_⟩; intro W hW; (try dsimp only at hW); go_simp; try with_reducible rfl)); (focus exact HC); (try simp only [Act.put, List.setIfInBounds_toArray, List.set_cons_zero, List.set_cons_succ]))
        (refine wpAnyK_take (i := 11) (oi := ?_) (v := ?_) ?_ ?_ ?_ ?_ ?_ ?_ ?_ ?_ ?_; rotate_left 2; (focus (simp only [List.getElem?_toArray, List.getElem?_cons_zero, List.getElem?_cons_succ]; rfl)); (focus kernel_rfl); (focus kernel_rfl); (focus kernel_rfl); (focus kernel_rfl); (focus exact fun _ _ _ h => h); (focus (refine Or.inl ⟨by rfl, ?_⟩; intro W hW; (try dsimp only at hW); go_simp; try with_reducible rfl)); (focus exact HC); (try simp only [Act.put, List.setIfInBounds_toArray, List.set_cons_zero, List.set_cons_succ]))
        (refine wpAnyK_take (i := 12) (oi := ?_) (v := ?_) ?_ ?_ ?_ ?_ ?_ ?_ ?_ ?_ ?_; rotate_left 2; (focus (simp only [List.getElem?_toArray, List.getElem?_cons_zero, List.getElem?_cons_succ]; rfl)); (focus kernel_rfl); (focus kernel_rfl); (focus kernel_rfl); (focus kernel_rfl); (focus exact fun _ _ _ h => h); (focus (refine Or.inl ⟨by rfl, ?_⟩; intro W hW; (try dsimp only at hW); go_simp; try with_reducible rfl)); (focus exact HC); (try simp only [Act.put, List.setIfInBounds_toArray, List.set_cons_zero, List.set_cons_succ]))
        clear hwj
        generalize w9.drewN 1 = wA at a0 c0 hrowA hxA hbA ⊢
        have HROWA := Lib.hid hrowA
        have HXA := Lib.hid hxA
        have HBA := Lib.hid hbA
        clear hbA
        clear hrowA hxA
        refine wpAnyK_rgC (us := [9, 13]) (fun _ _ => True)
          (fun i v W => match i with
            | 9 => v = .int .i64 (z : Int)
            | 13 => v = .int .i64 (d0 : Int)
            | _ => True)
          (fun _ => Mix.Ex) (fun W => wA = W) (by kernel_rfl) 4 (fun _ _ => trivial) rfl (fun _ _ => trivial) (fun _ _ _ _ _ _ _ _ _ => trivial) ?_ ?_ ?_
        · intro i hi j' hj' hij v W W' hv hg
          simp only [List.mem_cons, List.not_mem_nil, or_false] at hi
          rcases hi with rfl | rfl
          · exact hv
          · exact hv
        · intro i hi
          simp only [List.mem_cons, List.not_mem_nil, or_false] at hi
          rcases hi with rfl | rfl
          · intro o ho v0 W hI hb hd K hK
            simp only [List.getElem?_toArray, List.getElem?_cons_zero, List.getElem?_cons_succ, Option.some.injEq] at ho
            subst ho
            simp only [putU, dstOf, List.getElem?_toArray, List.getElem?_cons_zero, List.getElem?_cons_succ, Option.bind_some, Act.put, List.setIfInBounds_toArray, List.set_cons_zero, List.set_cons_succ] at hK ⊢
            subst hI
            clear hd hb
            go_simp
            exact hK _ _ rfl (Mix.Ex.refl _) rfl
          · intro o ho v0 W hI hb hd K hK
            simp only [List.getElem?_toArray, List.getElem?_cons_zero, List.getElem?_cons_succ, Option.some.injEq] at ho
            subst ho
            simp only [putU, dstOf, List.getElem?_toArray, List.getElem?_cons_zero, List.getElem?_cons_succ, Option.bind_some, Act.put, List.setIfInBounds_toArray, List.set_cons_zero, List.set_cons_succ] at hK ⊢
            subst hI
            clear hd hb
            go_simp
            exact hK _ _ rfl (Mix.Ex.refl _) rfl
        intro v0 W hI hA
        subst hI
        have e9 : v0 9 = _ := hA 9 (by simp)
        have e13 : v0 13 = _ := hA 13 (by simp)
        clear hA
        simp only [putU, dstOf, List.getElem?_toArray, List.getElem?_cons_zero, List.getElem?_cons_succ, Option.bind_some, Act.put, List.setIfInBounds_toArray, List.set_cons_zero, List.set_cons_succ]
        rw [e9, e13]
        clear e9 e13 v0
        clear c0
        (refine wpAnyK_one (i := 14) (o := ?_) ?_ ?_ ?_ (fun K hK => ?_); rotate_left 1; (focus kernel_rfl); (focus (simp only [List.getElem?_toArray, List.getElem?_cons_zero, List.getElem?_cons_succ]; rfl)); (focus rfl))
        go_simp
        refine hK _ _ (fun _ => trivial) ?_
        clear hK K
        have f0 := Row.frz HROWA.out j
        have r1 := Row.setN HROWA.out HML'.out (k := j) (by omega) z
        have x1 := (HXA.out.setCell (p := ⟨g2, j, none⟩) hgB (.int .i64 (z : Int)))
        have R1 := Lib.hid r1
        have V1 := Lib.hid ((setCell_ne j hB0g (.int .i64 (z : Int)) none).trans HBA.out)
        have X1 := Lib.hid x1
        clear r1 x1
        (refine wpAnyK_one (i := 15) (o := ?_) ?_ ?_ ?_ (fun K hK => ?_); rotate_left 1; (focus kernel_rfl); (focus (simp only [List.getElem?_toArray, List.getElem?_cons_zero, List.getElem?_cons_succ]; rfl)); (focus rfl))
        go_simp
        generalize (wA.setCell ⟨g2, j, none⟩ (.int .i64 (z : Int))) = wB at R1 X1 V1 hK ⊢
        refine hK _ _ (fun _ => trivial) ?_
        clear hK K a0 f0
        (refine wpAnyK_one (i := 16) (o := ?_) ?_ ?_ ?_ (fun K hK => ?_); rotate_left 1; (focus kernel_rfl); (focus (simp only [List.getElem?_toArray, List.getElem?_cons_zero, List.getElem?_cons_succ]; rfl)); (focus rfl))
        go_simp
        refine hK _ _ (fun _ => trivial) ?_
        clear hK K
        have hzB : (M'.set j z)[jp]? = some z := by rw [List.getElem?_set_ne (by omega)]; exact HZ.out
        have a0 := row_cell1 R1.out hzB
        have f0 := Row.frz R1.out jp
        have r2 := Row.setN R1.out (by rw [List.length_set]; exact HML'.out) (k := jp) (by omega) d0
        have x2 := (X1.out.setCell (p := ⟨g2, jp, none⟩) hgB (.int .i64 (d0 : Int)))
        have R2 := Lib.hid r2
        have V2 := Lib.hid ((setCell_ne jp hB0g (.int .i64 (d0 : Int)) none).trans V1.out)
        have X2 := Lib.hid x2
        clear r2 x2
        (refine wpAnyK_one (i := 17) (o := ?_) ?_ ?_ ?_ (fun K hK => ?_); rotate_left 1; (focus kernel_rfl); (focus (simp only [List.getElem?_toArray, List.getElem?_cons_zero, List.getElem?_cons_succ]; rfl)); (focus rfl))
        go_simp
        generalize (wB.setCell ⟨g2, jp, none⟩ (.int .i64 (d0 : Int))) = wC at R2 X2 V2 hK ⊢
        refine hK _ _ (fun _ => trivial) ?_
        clear hK K a0 f0 hzB
        refine wpAnyK_done (by kernel_rfl) ?_ _
        have hdf := HYES.out HLT.out
        rw [← HJP.out] at hdf
        have HDF := Lib.hid hdf
        clear hdf
        go_wp2_with fail
        go_roundw
        case measure => simp [intOf]; omega
        case rel => exact ⟨jp, by omega, by go_num, ⟨_, R2.out, HDF.out⟩, V2.out, X2.out⟩
      · have hd : decide ((d0 : Int) < (z : Int)) = false := decide_eq_false (by omega)
        have hs := HNO.out hlt'
        have HS := Lib.hid hs
        clear hs hx hrow'
        go_upto_region 7 with (fail)
        (refine Mix.wp_region_dr (by kernel_rfl) (by kernel_rfl) ?_; (repeat (go_big_quiet_step (fail))); refine wpQuiet_nil ?_; intro nq)
        clear a0 c0 hgw
        go_wp2_with fail
        go_roundw
        case measure => simp [intOf]; omega
        case rel => exact ⟨kk + 1, g2, cap2, by omega, by go_num, rfl, ⟨M', HROW'.out.ex ((Mix.Ex.refl _).drewN _), HPM.out, HS.out⟩, HB0.out, HX.out.drewN _⟩
end Go.Proofs.Ytboeldlilkeihaa
