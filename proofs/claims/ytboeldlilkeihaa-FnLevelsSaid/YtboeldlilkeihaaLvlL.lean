/- The law on the levels: its walk. -/
import Derived.Test.YtboeldlilkeihaaDepL
set_option linter.unusedSimpArgs false
set_option linter.unusedVariables false
namespace Go.Bx
theorem sum_ge : ∀ {l : List Nat}, (∀ n ∈ l, 1 ≤ n ∧ n ≤ 64) → l.length ≤ l.sum
  | [], _ => Nat.le_refl _
  | n :: l, h => by
    rw [List.length_cons, List.sum_cons]
    have h1 := (h n List.mem_cons_self).1
    have h2 := sum_ge (l := l) fun m hm => h m (List.mem_cons_of_mem _ hm)
    omega
theorem Good.le : ∀ {Ls : List (List Nat)} {s e : Nat}, Good Ls s e → s ≤ e
  | [], s, e, h => Nat.le_of_eq h
  | l :: Ls, s, e, h => by
    have h1 := sum_ge h.2.1
    have h2 := Good.le h.2.2
    have h3 := h.1
    omega
theorem levels_good {T : Tre} (h : TreOk T) : (lvT T = [] ∧ itT T = []) ∨ (lvT T ≠ [] ∧ Good (lvT T) 1 (itT T).length) := by
  unfold TreOk at h
  unfold lvT itT
  cases hr : T.root with
  | none => exact .inl ⟨rfl, rfl⟩
  | some q =>
    rw [hr] at h
    dsimp only at h ⊢
    refine .inr ⟨fun e => ?_, ?_⟩
    · have := congrArg List.length e
      rw [lvN_len] at this
      simp at this
    have := lvN_good (L := [q.2]) (fun t ht => by simp at ht; subst ht; exact ⟨h.1.1, h.1.2.2⟩)
    simpa using this
theorem take_sum {l : List Nat} {k n : Nat} (h : l[k]? = some n) : (l.take (k + 1)).sum = (l.take k).sum + n := by
  rw [takeN_snoc h, List.sum_append]; simp
theorem take_sum_le : ∀ (l : List Nat) (k : Nat), (l.take k).sum ≤ l.sum
  | [], k => by simp
  | n :: l, 0 => by simp
  | n :: l, k + 1 => by
    rw [List.take_succ_cons, List.sum_cons, List.sum_cons]
    have := take_sum_le l k
    omega
end Go.Bx
namespace Go.Proofs.Ytboeldlilkeihaa
open Go.RowKit Go.Bx
set_option maxRecDepth 100000 in
set_option maxHeartbeats 1600000 in
theorem levels_walk (w : World) (v : Value) (zs : List Int) (h : Ints16At w v zs) :
    Calls Try.prog 8 #[v] w fun e w' => e = .returned (.bool true) ∧ Mix.Ex w w' := by
  have h' := h
  obtain ⟨⟨o, cap0, rfl, hcells⟩, hle, hcap, hwf⟩ := h
  clear hcells hwf hcap
  go_enter Try.func8, Try.ntmps8
  go_wp2_with fail
  · go_ret
    exact ⟨rfl, Mix.Ex.refl _⟩
  refine (steps_c w _ zs h').mono ?_
  rintro e w1 ⟨g, cap, rfl, hr, hx⟩
  have hl := stepsOf_len zs
  have hok := stepsOf_ok h'
  generalize stepsOf zs = S at hr hl hok ⊢
  obtain ⟨n, hn⟩ : ∃ n, S.length = n := ⟨_, rfl⟩
  rw [hn] at hr hl ⊢
  go_wp2_with fail
  refine (fair_c w1 0 _ (.slice none 0 0) [] (.nil itemV_len) g n cap S hr hn (by simp; omega)).mono ?_
  rintro e w2 ⟨b, rfl, hb, hx2⟩
  cases b
  · go_wp2_with fail
    go_ret
    exact ⟨rfl, hx.trans hx2⟩
  have hf := hb rfl
  have hp := (grown_fair hok hf).length_eq
  have hgd := levels_good (grown_ok hok)
  have hll := lvT_len_le hok
  rw [hn] at hll
  have hml := play_len S []
  simp only [List.length_nil] at hml
  have hC := implCounts_c w2 S hok (by omega) _ g cap n hn (hr.ex hx2)
  have hP := fun W (hx : Mix.Ex w2 W) => play_c W 0 _ (.slice none 0 0) [] (.nil itemV_len) g n cap S ((hr.ex hx2).ex hx) hn (by simp; omega)
  have HX2 := Lib.hid (hx.trans hx2)
  clear hb hf hx hx2 hr
  have hpe : itT (Bx.runT tre0 S) = [] → (play [] S).length = 0 := fun e => by rw [← hp, e]; rfl
  rw [hp] at hgd
  generalize lvT (Bx.runT tre0 S) = Ls at hC hgd hll
  generalize itT (Bx.runT tre0 S) = G at hgd hpe
  clear hp
  obtain ⟨E, hE⟩ : ∃ E, (play [] S).length = E := ⟨_, rfl⟩
  rw [hE] at hgd hpe hml
  have HE := Lib.hid hE
  have HP := Lib.hid hP
  clear hE hP
  go_wp2_with fail
  refine hC.mono ?_
  rintro e w3 ⟨v3, rfl, ⟨D, hD, hDr, hDx⟩, hx3⟩
  obtain ⟨oD, cD, rfl, hoD⟩ := hDr.slice
  obtain ⟨m, hm⟩ : ∃ m, D.length = m := ⟨_, rfl⟩
  have hLm : Ls.length = m := by rw [← hD, List.length_map]; exact hm
  rw [hm] at hDr hoD ⊢
  rw [hLm] at hll
  have HM := Lib.hid hm
  have HLM := Lib.hid hLm
  have HDR := Lib.hid hDr
  have HDX := Lib.hid hDx
  have HD := Lib.hid hD
  clear hm hDr hDx hD hC hLm
  by_cases hm0 : m = 0
  · have hL0 : Ls = [] := List.length_eq_zero_iff.1 (by have := HLM.out; omega)
    have hE0 : E = 0 := by
      rcases hgd with ⟨_, h2⟩ | ⟨h2, _⟩
      · exact hpe h2
      · exact absurd hL0 h2
    subst hm0
    subst hE0
    have hP := HP.out w3 hx3
    clear hL0 hgd hpe
    go_wp2_with fail
    refine hP.mono ?_
    rintro e w4 ⟨v', rfl, hrow, hx4⟩
    obtain ⟨om, capm, rfl, -⟩ := hrow.slice
    rw [HE.out]
    have hxa := (Mix.Ex.refl w4).alloc (.cells (stepV st0).toArray 37)
    have hone : (w4.alloc (.cells (stepV st0).toArray 37)).Row 0 37 11 stepV (.slice (some ⟨w4.heap.size, 0, none⟩) 1 1) [st0] := World.Row.one stepV_len (Nat.zero_le _) (heap_alloc_new _ _)
    have hLo := implCounts_c (w4.alloc (.cells (stepV st0).toArray 37)) [st0] st0_ok (by simp) 0 w4.heap.size 1 1 rfl hone
    have HX4 := Lib.hid (((HX2.out.trans hx3).trans hx4).trans hxa)
    clear hone hrow hx3 hx4 hxa hP
    go_wp2_with fail
    refine hLo.mono ?_
    rintro e w6 ⟨v6, rfl, hv6, hx6⟩
    obtain ⟨o6, c6, rfl⟩ := hv6.slice
    rw [st0_lv]
    clear hLo hv6
    go_wp2_with fail
    go_ret
    exact ⟨rfl, HX4.out.trans hx6⟩
  obtain ⟨gD, rfl⟩ := hoD (by omega)
  have hgd : Bx.Good Ls 1 E := by
    rcases hgd with ⟨h2, _⟩ | ⟨_, h2⟩
    · exact absurd (by rw [← HLM.out, h2]; rfl) hm0
    · exact h2
  have HGD := Lib.hid hgd
  have HX3 := Lib.hid hx3
  have em0 : ((m : Int) == 0) = false := by simp; omega
  clear hgd hx3 hpe hoD
  go_upto_region 11 with (fail)
  go_loopw [5, 36] (fun t i wr => ∃ jj sm : Nat, jj ≤ m ∧ i = .int .i64 jj ∧ t = .int .i64 sm ∧ Hid (Bx.Good (Ls.drop jj) sm E) ∧ sm ≤ 900000 ∧ Mix.Ex w3 wr) (fun _ i _ => m - (intOf i).toNat)
  case atStart => exact ⟨0, 1, by omega, rfl, rfl, HGD, by omega, Mix.Ex.refl _⟩
  case round =>
    obtain ⟨jj, sm, hj, rfl, rfl, HG, hsm, hx⟩ := hrel
    by_cases hlj : jj < m
    case neg =>
      have hjm : jj = m := by omega
      subst hjm
      have hg := HG.out
      rw [List.drop_of_length_le (by rw [HLM.out]; exact Nat.le_refl _)] at hg
      have hg : sm = E := hg
      subst hg
      have hP := HP.out _ (HX3.out.trans hx)
      have HXX := Lib.hid ((HX2.out.trans HX3.out).trans hx)
      clear hx
      go_wp2_with fail
      refine hP.mono ?_
      rintro e w4 ⟨v', rfl, hrow, hx4⟩
      obtain ⟨om, capm, rfl, -⟩ := hrow.slice
      rw [HE.out]
      clear hP hrow
      go_wp2_with fail
      go_ret
      exact ⟨rfl, HXX.out.trans hx4⟩
    obtain ⟨x, hxj⟩ : ∃ x, D[jj]? = some x := ⟨D[jj]'(by have := HM.out; omega), List.getElem?_eq_getElem _⟩
    have hLj : Ls[jj]? = some x.2 := by rw [← HD.out, List.getElem?_map, hxj]; rfl
    have hxr := HDX.out x (List.mem_of_getElem? hxj)
    have hc := (HDR.out.ex hx).cell (j := 0) (u := x.1) hxj rfl
    rw [Nat.mul_one, Nat.add_zero] at hc
    obtain ⟨vx, l⟩ := x
    dsimp only at hLj hxr hc
    obtain ⟨ox, cx, rfl, hox⟩ := hxr.slice
    have hg := HG.out
    rw [List.drop_eq_getElem_cons (by rw [HLM.out]; exact hlj)] at hg
    have hLe : Ls[jj]'(by rw [HLM.out]; exact hlj) = l := by
      have := List.getElem?_eq_getElem (l := Ls) (i := jj) (by rw [HLM.out]; exact hlj)
      rw [this] at hLj
      exact Option.some.inj hLj
    rw [hLe] at hg
    obtain ⟨g1, g2, g3⟩ := hg
    have hls := Bx.Good.le g3
    rw [g1] at hxr hc hox
    have G1 := Lib.hid g1
    have G2 := Lib.hid g2
    have G3 := Lib.hid g3
    have HXR := Lib.hid hxr
    have HX := Lib.hid hx
    clear g1 g2 g3 hxr hx hLe hLj hxj HG
    go_upto_region 17 with (fail)
    generalize wr = wo at HX ⊢
    go_loopw [5, 46] (fun t i wr => ∃ kk : Nat, kk ≤ sm ∧ i = .int .i64 kk ∧ t = .int .i64 (((l.take kk).sum : Nat) : Int) ∧ Mix.Ex wo wr) (fun _ i _ => sm - (intOf i).toNat)
    case atStart => exact ⟨0, by omega, rfl, rfl, Mix.Ex.refl _⟩
    case round =>
      obtain ⟨kk, hk, rfl, rfl, hx⟩ := hrel
      have hts := take_sum_le l kk
      by_cases hlk : kk < sm
      case neg =>
        have hks : kk = sm := by omega
        have e : l.take kk = l := List.take_of_length_le (by rw [G1.out]; omega)
        rw [e]
        subst hks
        have HXX := Lib.hid (HX.out.trans hx)
        clear hx e hts
        go_wp2_with fail
        go_roundw
        case measure => simp [intOf]; omega
        case rel => exact ⟨jj + 1, l.sum, by omega, by go_num, rfl, G3, by omega, HXX.out⟩
      obtain ⟨gx, rfl⟩ := hox (by have := G1.out; omega)
      obtain ⟨nn, hnn⟩ : ∃ nn, l[kk]? = some nn := ⟨l[kk]'(by have := G1.out; omega), List.getElem?_eq_getElem _⟩
      have hcn := ((HXR.out.ex HX.out).ex hx).cell (j := 0) (u := .int .i64 nn) hnn rfl
      rw [Nat.mul_one, Nat.add_zero] at hcn
      obtain ⟨b1, b2⟩ := G2.out nn (List.mem_of_getElem? hnn)
      have hsn := take_sum hnn
      have hts2 := take_sum_le l (kk + 1)
      have HSN := Lib.hid hsn
      have HXX := Lib.hid hx
      clear hnn hx hsn
      generalize (l.take kk).sum = sk at hts HSN ⊢
      rw [HSN.out] at hts2
      go_wp2_with fail
      go_roundw
      case measure => simp [intOf]; omega
      case rel => exact ⟨kk + 1, by omega, by go_num, by rw [HSN.out]; go_num, HXX.out⟩
end Go.Proofs.Ytboeldlilkeihaa
