/- The law that a tree out of which all was taken is empty: the plain law and the walk. -/
import Derived.Test.YtboeldlilkeihaaAllL
set_option linter.unusedSimpArgs false
set_option linter.unusedVariables false
namespace Go.Bx
theorem erase_all {D : List (R × Int)} : ∀ {L : List (R × Int)}, L.Perm D → D.foldl (fun L d => L.erase d) L = [] := by
  induction D with
  | nil => intro L h; exact List.Perm.eq_nil h
  | cons d D ih =>
    intro L h
    refine ih ?_
    have := h.erase d
    rwa [List.erase_cons_head] at this
/-- The list from the k-th item on, all the way round. -/
def turned (M : List (R × Int)) (k j : Nat) : List (R × Int) := (List.range j).map fun i => M.getD ((i + k) % M.length) (R0, 0)
theorem turned_succ (M : List (R × Int)) (k j : Nat) : turned M k (j + 1) = turned M k j ++ [M.getD ((j + k) % M.length) (R0, 0)] := by simp [turned, List.range_succ]
theorem turned_len (M : List (R × Int)) (k j : Nat) : (turned M k j).length = j := by simp [turned]
theorem turned_perm (M : List (R × Int)) (k : Nat) : M.Perm (turned M k M.length) := by
  rcases Nat.eq_zero_or_pos M.length with h0 | h0
  · have : M = [] := List.length_eq_zero_iff.1 h0
    subst this; exact List.Perm.nil
  have hk : k % M.length < M.length := Nat.mod_lt _ h0
  have e : turned M k M.length = M.drop (k % M.length) ++ M.take (k % M.length) := by
    apply List.ext_getElem?
    intro i
    have hl : (M.drop (k % M.length)).length = M.length - k % M.length := List.length_drop
    rcases Nat.lt_or_ge i M.length with hi | hi
    · have e1 : (turned M k M.length)[i]? = M[(i + k) % M.length]? := by
        unfold turned
        rw [List.getElem?_map, List.getElem?_range hi]
        have : (i + k) % M.length < M.length := Nat.mod_lt _ h0
        simp [List.getD_eq_getElem?_getD, this]
      have e2 : (i + k) % M.length = (i + k % M.length) % M.length := by simp
      rw [e1, e2]
      generalize k % M.length = q at hk hl
      rcases Nat.lt_or_ge (i + q) M.length with h | h
      · rw [Nat.mod_eq_of_lt h, List.getElem?_append_left (by omega), List.getElem?_drop, Nat.add_comm]
      · rw [Nat.mod_eq_sub_mod h, Nat.mod_eq_of_lt (by omega), List.getElem?_append_right (by omega), hl, List.getElem?_take_of_lt (by omega)]
        congr 1
        omega
    · rw [List.getElem?_eq_none (by rw [turned_len]; omega), List.getElem?_eq_none (by rw [List.length_append, hl, List.length_take]; omega)]
  rw [e]
  have := List.perm_append_comm (l₁ := M.take (k % M.length)) (l₂ := M.drop (k % M.length))
  rw [List.take_append_drop] at this
  exact this
/-- Steps that take these out. -/
def dels (D : List (R × Int)) : List Stp := D.map fun x => ⟨1, x, (R0, 0)⟩
theorem play_dels (D : List (R × Int)) : ∀ L, play L (dels D) = D.foldl (fun L d => L.erase d) L := by
  induction D with
  | nil => intro L; rfl
  | cons d D ih =>
    intro L
    show play (play1 ⟨1, d, (R0, 0)⟩ L) (dels D) = _
    rw [ih]; rfl
theorem play_append (L : List (R × Int)) (S S' : List Stp) : play L (S ++ S') = play (play L S) S' := by simp [play]
theorem play1_ok {st : Stp} (hs : st.ok) {L : List (R × Int)} (h : ∀ x ∈ L, x.1.small ∧ x.1.ok) : ∀ x ∈ play1 st L, x.1.small ∧ x.1.ok := by
  intro x hx
  unfold play1 at hx
  split at hx
  · rcases List.mem_append.1 hx with h1 | h1
    · exact h x h1
    · simp at h1; subst h1; exact hs.1
  split at hx
  · exact h x (List.mem_of_mem_erase hx)
  split at hx
  · split at hx
    · rcases List.mem_append.1 hx with h1 | h1
      · exact h x (List.mem_of_mem_erase h1)
      · simp at h1; subst h1; exact hs.2
    · exact h x (List.mem_of_mem_erase hx)
  split at hx
  · cases hx
  · exact h x hx
theorem play_ok {S : List Stp} : ∀ {L : List (R × Int)}, (∀ st ∈ S, st.ok) → (∀ x ∈ L, x.1.small ∧ x.1.ok) → ∀ x ∈ play L S, x.1.small ∧ x.1.ok := by
  induction S with
  | nil => intro L _ h; exact h
  | cons st S ih =>
    intro L hS h
    exact ih (fun a ha => hS a (List.mem_cons_of_mem _ ha)) (play1_ok (hS st List.mem_cons_self) h)
theorem dels_ok {D : List (R × Int)} (h : ∀ x ∈ D, x.1.small ∧ x.1.ok) : ∀ st ∈ dels D, st.ok := by
  intro st hst
  obtain ⟨x, hx, rfl⟩ := List.mem_map.1 hst
  exact ⟨h x hx, by simp [R.small, R0], by simp [R.ok, R0]⟩
/-- All taken out: nothing is left. -/
theorem emptied {S : List Stp} (hS : ∀ st ∈ S, st.ok) (k : Nat) (hf : fair [] (S ++ dels (turned (play [] S) k (play [] S).length))) :
    (∀ st ∈ S ++ dels (turned (play [] S) k (play [] S).length), st.ok) ∧ itT (runT tre0 (S ++ dels (turned (play [] S) k (play [] S).length))) = [] := by
  have hM := play_ok (L := []) hS (fun x h => by cases h)
  have hp := turned_perm (play [] S) k
  have ho : ∀ st ∈ S ++ dels (turned (play [] S) k (play [] S).length), st.ok := by
    intro st hst
    rcases List.mem_append.1 hst with h | h
    · exact hS st h
    · exact dels_ok (fun x hx => hM x (hp.mem_iff.2 hx)) st h
  refine ⟨ho, ?_⟩
  have h := grown_fair ho hf
  rw [play_append, play_dels, erase_all hp] at h
  exact List.Perm.eq_nil h
end Go.Bx
namespace Go.Proofs.Ytboeldlilkeihaa
open Go.RowKit Go.Bx
set_option maxRecDepth 100000 in
set_option maxHeartbeats 1600000 in
theorem emptied_walk (w : World) (v : Value) (zs : List Int) (k : Int) (h : Ints16At w v zs) (hk : 0 ≤ k ∧ k ≤ 65535) :
    Calls Try.prog 11 #[v, .int .u16 k] w fun e w' => e = .returned (.bool true) ∧ Mix.Ex w w' := by
  obtain ⟨i0, hi0, hz0, hz1, hz2⟩ := info_parts info_step
  obtain ⟨K, rfl⟩ : ∃ K : Nat, k = K := ⟨k.toNat, by omega⟩
  have h' := h
  obtain ⟨⟨o, cap0, rfl, hcells⟩, hle, hcap, hwf⟩ := h
  clear hcells hwf hcap
  obtain ⟨B, hB⟩ : ∃ B, w.heap.size = B := ⟨_, rfl⟩
  go_enter Try.func11, Try.ntmps11
  go_wp2_with fail
  · go_ret
    exact ⟨rfl, Mix.Ex.refl _⟩
  refine (steps_c w _ zs h').mono ?_
  rintro e w1 ⟨g, cap, rfl, hr, hx⟩
  have hl := stepsOf_len zs
  have hok := stepsOf_ok h'
  generalize stepsOf zs = S at hr hl hok ⊢
  obtain ⟨n, hn⟩ : ∃ n, S.length = n := ⟨_, rfl⟩
  rw [hn] at hr ⊢
  rw [hB] at hr
  have hml := play_len S []
  simp only [List.length_nil] at hml
  have hE := fun hf => emptied hok K hf
  have hnl : n ≤ 400 := by omega
  have hPl := play_c w1 0 _ (.slice none 0 0) [] (.nil itemV_len) g n cap S hr hn (by simp; omega)
  go_wp2_with fail
  refine hPl.mono ?_
  rintro e w2 ⟨v', rfl, hrow, hx2⟩
  generalize play [] S = M at hrow hml hE
  obtain ⟨om, capm, rfl, hom⟩ := hrow.slice
  obtain ⟨m, hmm⟩ : ∃ m, M.length = m := ⟨_, rfl⟩
  rw [hmm] at hrow hom hml hE ⊢
  have HM := Lib.hid hmm
  have HE := Lib.hid hE
  have hr2 := hr.ex hx2
  have hx12 := hx.trans hx2
  have HN := Lib.hid hn
  clear hmm hE hn hPl hr hx hx2
  go_wp2_with fail
  go_loopw [5, 17] (fun u i wr => ∃ jj gs cs : Nat, jj ≤ m ∧ i = .int .i64 jj ∧ u = .slice (some ⟨gs, 0, none⟩) (n + jj) cs ∧ wr.Row B 37 11 stepV u (S ++ dels (turned M K jj)) ∧ wr.Row 0 35 5 itemV (.slice om m capm) M ∧ Mix.Ex w wr) (fun _ i _ => m - (intOf i).toNat)
  case atStart => exact ⟨0, g, cap, by omega, rfl, rfl, by simpa [turned, dels] using hr2, hrow.mono (Nat.zero_le _), hx12⟩
  case round =>
    obtain ⟨jj, gs, cs, hj, rfl, rfl, hru, hrm, hxw⟩ := hrel
    have hlen : (S ++ dels (turned M K jj)).length = n + jj := by rw [List.length_append, HN.out]; simp [dels, turned_len]
    have HLN := Lib.hid hlen
    clear hlen
    by_cases hlj : jj < m
    case neg =>
      have hjm : jj = m := by omega
      subst hjm
      have HRU := Lib.hid hru
      obtain ⟨S', hS'⟩ : ∃ S', S ++ dels (turned M K jj) = S' := ⟨_, rfl⟩
      have hE := HE.out
      rw [hS'] at hru HLN hE
      have hF := fair_c wr 0 _ (.slice none 0 0) [] (.nil itemV_len) gs (n + jj) cs _ hru HLN.out (by simp; omega)
      have HXW := Lib.hid hxw
      have HRS := Lib.hid hru
      clear hrm hxw HRU hS' hru
      go_wp2_with fail
      refine hF.mono ?_
      rintro e w3 ⟨b, rfl, hb, hx3⟩
      clear hF
      cases b
      · go_wp2_with fail
        go_ret
        exact ⟨rfl, HXW.out.trans hx3⟩
      obtain ⟨hok', hem⟩ := hE (hb rfl)
      have hil : (itT (Bx.runT tre0 S')).length ≤ 900000 := by rw [hem]; simp
      have hLn := fun W (hx : Mix.Ex wr W) => implLen_c W S' hok' (by rw [HLN.out]; omega) _ gs cs (n + jj) HLN.out (HRS.out.ex hx)
      have hSc := fun W (hx : Mix.Ex wr W) => implScan_c W S' hok' (by rw [HLN.out]; omega) _ gs cs (n + jj) HLN.out (HRS.out.ex hx) hil
      rw [hem] at hLn hSc
      simp only [List.length_nil] at hLn hSc
      have HSC := Lib.hid hSc
      clear hb hE hem hil hSc
      go_wp2_with fail
      refine (hLn _ hx3).mono ?_
      rintro e w4 ⟨rfl, hx4⟩
      have hx34 := hx3.trans hx4
      clear hLn hx3 hx4
      go_wp2_with fail
      refine (HSC.out _ hx34).mono ?_
      rintro e w5 ⟨g5, c5, rfl, -, hx5⟩
      have hx35 := hx34.trans hx5
      have hxa := (Mix.Ex.refl w5).alloc (.cells (stepV st0).toArray 37)
      have hone : (w5.alloc (.cells (stepV st0).toArray 37)).Row 0 37 11 stepV (.slice (some ⟨w5.heap.size, 0, none⟩) 1 1) [st0] := World.Row.one stepV_len (Nat.zero_le _) (heap_alloc_new _ _)
      have hLo := implLen_c (w5.alloc (.cells (stepV st0).toArray 37)) [st0] st0_ok (by simp) 0 w5.heap.size 1 1 rfl hone
      rw [st0_len] at hLo
      clear hone hx34 hx5
      go_wp2_with fail
      refine hLo.mono ?_
      rintro e w6 ⟨rfl, hx6⟩
      go_wp2_with fail
      go_ret
      exact ⟨rfl, (HXW.out.trans hx35).trans (hxa.trans hx6)⟩
    obtain ⟨gm, rfl⟩ := hom (by omega)
    obtain ⟨q, hq⟩ : ∃ q, (jj + K) % m = q := ⟨_, rfl⟩
    have hqm : q < m := by rw [← hq]; exact Nat.mod_lt _ (by omega)
    obtain ⟨x, hxq⟩ : ∃ x, M[q]? = some x := ⟨M[q]'(by have := HM.out; omega), List.getElem?_eq_getElem _⟩
    obtain ⟨l0, l1, l2, l3, l4⟩ := row_cells5 hrm hxq
    have hti : Int.tmod ((jj : Int) + K) m = q := by rw [← hq]; exact (Int.ofNat_tmod (jj + K) m).symm
    have hm0 : (m : Int) ≠ 0 := by omega
    have hsn : S ++ dels (turned M K (jj + 1)) = (S ++ dels (turned M K jj)) ++ [⟨1, x, (R0, 0)⟩] := by
      rw [turned_succ, HM.out, hq, List.getD_eq_getElem?_getD, hxq]
      simp [dels]
    have HSN := Lib.hid hsn
    clear hsn
    generalize S ++ dels (turned M K jj) = SS at hru HLN HSN
    have hap : ∀ k', Value.ownBlock (.slice (some ⟨gs, 0, none⟩) (n + jj) cs) = some k' → Value.ownBlock (.slice (some ⟨gm, 0, none⟩) m capm) ≠ some k' := hru.apart hrm (by decide)
    have HAP := Lib.hid hap
    have hbs := hxw.below.size
    have HRM := Lib.hid hrm
    have HXW := Lib.hid hxw
    have hxa := (Mix.Ex.refl wr).alloc (.cells (stepV ⟨1, x, (R0, 0)⟩).toArray 37)
    have hruA := hru.ex hxa
    have HXA := Lib.hid (hxw.trans hxa)
    have HRMA := Lib.hid (hrm.ex hxa)
    clear hap hrm hxw hru hxa hq hxq
    go_upto_region 8 with (fail)
    go_wp2_with (at_builtin; refine wpList_append_row _ rfl (.tmp 20) (.tmp 32) 23 rfl B 37 i0 _ 11 88 Try.underlying23 hi0 hz0 hz1 hz2 rfl (by omega) stepV (.slice (some ⟨gs, 0, none⟩) (n + jj) cs) _ (⟨1, x, (R0, 0)⟩ : Stp) rfl hruA ⟨wr.heap.size, 0, none⟩ 1 rfl (World.news_of_block (heap_alloc_new _ _)) (stepV_one _) (by rw [HLN.out]; unfold maxLen; omega) (by rw [HLN.out]; omega) (by simp; omega) ?_; intro g2 cap2 w3 hrow3 hgrow hat2 hlt2)
    have hx3 := HXA.out.grown hgrow (fun j hj => by have := (hruA.lt j hj).1; omega)
    rw [HLN.out, ← HSN.out] at hrow3
    have hrm3 := HRMA.out.kept hgrow (by
      right
      intro e
      have h2 := HAP.out gs rfl
      exact h2 e)
    rw [HLN.out]
    go_roundw
    case measure => simp [intOf]; omega
    case rel => exact ⟨jj + 1, g2, cap2, by omega, by go_num, rfl, hrow3, hrm3, hx3⟩
end Go.Proofs.Ytboeldlilkeihaa
