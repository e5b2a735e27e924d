/- The levels of a tree: in plain Lean, and the contract of ZZCounts. -/
import Derived.Test.YtboeldlilkeihaaZScan
import Derived.Test.YtboeldlilkeihaaLenL
import Derived.Test.YtboeldlilkeihaaAllL
set_option linter.unusedSimpArgs false
set_option linter.unusedVariables false
namespace Go.Bx
/-- The nodes below a node. -/
def kids {h : Nat} (t : Nde (El (h + 1))) : List (Nde (El h)) := (lst t.n t.E).map (·.2)
/-- The numbers of entries of nodes, level by level. -/
def lvN : (h : Nat) → List (Nde (El h)) → List (List Nat)
  | 0, L => [L.map (·.n)]
  | h + 1, L => L.map (·.n) :: lvN h (L.flatMap kids)
def lvT (T : Tre) : List (List Nat) := match T.root with
  | none => []
  | some q => lvN q.1 [q.2]
/-- A node in form that has entries. -/
def Wok (h : Nat) (t : Nde (El h)) : Prop := 1 ≤ t.n ∧ WfN h t
theorem Wok.kids {h : Nat} {t : Nde (El (h + 1))} (k : Wok (h + 1) t) : ∀ u ∈ kids t, Wok h u := by
  intro u hu
  obtain ⟨e, he, rfl⟩ := List.mem_map.1 hu
  have := Wf_succ.1 (k.2.2 e he)
  exact ⟨this.1, this.2.2⟩
theorem itsN_kids {h : Nat} (t : Nde (El (h + 1))) : itsN (h + 1) t = (kids t).flatMap (itsN h) := by
  unfold itsN Bx.kids
  rw [List.flatMap_map]
  rfl
theorem flat_kids {h : Nat} (L : List (Nde (El (h + 1)))) : (L.flatMap kids).flatMap (itsN h) = L.flatMap (itsN (h + 1)) := by
  rw [List.flatMap_assoc]
  congr 1
  funext t
  rw [itsN_kids]
theorem Wok.pos {h : Nat} {t : Nde (El h)} (k : Wok h t) : 1 ≤ (itsN h t).length := by
  have hb := (k.2.bnd_bd k.1).ne
  rcases Nat.eq_zero_or_pos (itsN h t).length with e | e
  · exact absurd (by rw [List.length_eq_zero_iff.1 e]; rfl) hb
  · exact e
theorem level_le {h : Nat} {L : List (Nde (El h))} (k : ∀ t ∈ L, Wok h t) : L.length ≤ (L.flatMap (itsN h)).length := by
  induction L with
  | nil => exact Nat.le_refl _
  | cons t L ih =>
    rw [List.flatMap_cons, List.length_append, List.length_cons]
    have h1 := (k t List.mem_cons_self).pos
    have h2 := ih fun u hu => k u (List.mem_cons_of_mem _ hu)
    omega
theorem lvN_len {h : Nat} : ∀ (L : List (Nde (El h))), (lvN h L).length = h + 1 := by
  induction h with
  | zero => intro L; rfl
  | succ h ih => intro L; show (_ :: lvN h _).length = _; rw [List.length_cons, ih]
/-- What the law checks. -/
def Good : List (List Nat) → Nat → Nat → Prop
  | [], s, e => s = e
  | l :: ls, s, e => l.length = s ∧ (∀ n ∈ l, 1 ≤ n ∧ n ≤ 64) ∧ Good ls l.sum e
theorem kids_len {h : Nat} (L : List (Nde (El (h + 1)))) : (L.flatMap kids).length = (L.map (·.n)).sum := by
  rw [List.length_flatMap]
  congr 1
  exact List.map_congr_left fun t _ => by simp [kids, lst_len]
theorem lvN_good {h : Nat} : ∀ {L : List (Nde (El h))}, (∀ t ∈ L, Wok h t) → Good (lvN h L) L.length (L.flatMap (itsN h)).length := by
  induction h with
  | zero =>
    intro L k
    refine ⟨by simp, fun n hn => ?_, ?_⟩
    · obtain ⟨t, ht, rfl⟩ := List.mem_map.1 hn
      exact ⟨(k t ht).1, (k t ht).2.1⟩
    · show (L.map (·.n)).sum = _
      rw [List.length_flatMap]
      congr 1
      refine List.map_congr_left fun t _ => ?_
      show t.n = (itsN 0 t).length
      unfold itsN
      rw [List.length_flatMap]
      have : (lst t.n t.E).map (fun e => (its 0 e.1 e.2).length) = (lst t.n t.E).map (fun _ => 1) := List.map_congr_left fun e _ => rfl
      rw [this]
      have one : ∀ (l : List (R × El 0)), (l.map (fun _ => 1)).sum = l.length := by
        intro l
        induction l with
        | nil => rfl
        | cons a l ih => rw [List.map_cons, List.sum_cons, ih, List.length_cons, Nat.add_comm]
      rw [one, lst_len]
  | succ h ih =>
    intro L k
    refine ⟨by simp, fun n hn => ?_, ?_⟩
    · obtain ⟨t, ht, rfl⟩ := List.mem_map.1 hn
      exact ⟨(k t ht).1, (k t ht).2.1⟩
    · show Good (lvN h (L.flatMap kids)) (L.map (·.n)).sum _
      rw [← kids_len, ← flat_kids]
      exact ih fun u hu => by
        obtain ⟨t, ht, hu⟩ := List.mem_flatMap.1 hu
        exact (k t ht).kids u hu
end Go.Bx
namespace Go.Proofs.Ytboeldlilkeihaa
open Go.RowKit Go.Bx
def nI (n : Nat) : List Value := [.int .i64 n]
theorem nI_len (n : Nat) : (nI n).length = 1 := rfl
theorem nI_one (n : Nat) : ∀ u ∈ nI n, u.oneCell' = true := by
  intro u hu
  simp [nI] at hu
  subst hu; rfl
def pV {h : Nat} (a : An h) : List Value := [a.v]
theorem pV_len {h : Nat} (a : An h) : (pV a).length = 1 := rfl
def lV (x : Value × List Nat) : List Value := [x.1]
theorem lV_len (x : Value × List Nat) : (lV x).length = 1 := rfl
theorem info_ints : (Try.prog.info? 43).map (fun i => (i.zero, i.size, i.bytes)) = some (some (.slice none 0 0), 1, 24) := by kernel_rfl
/-- The list of lists of numbers. -/
structure LvRow (w : World) (base : Nat) (v : Value) (Ls : List (List Nat)) : Prop where
  ex : ∃ D : List (Value × List Nat), D.map (·.2) = Ls ∧ w.Row base 43 1 lV v D ∧ ∀ x ∈ D, w.Row base 3 1 nI x.1 x.2
/-- The nodes of a level: their pointers in a list; in w0 they are these nodes. -/
structure Lvl (c : Int) (Z : Nat → Prop) (w0 w : World) (base : Nat) (v : Value) (h : Nat) (K : List (Nde (El h))) : Prop where
  ex : ∃ D : List (An (h + 1)), D.map (·.t) = K ∧ w.Row base 92 1 pV v D ∧ ∀ a ∈ D, ElAt c Z w0 (h + 1) a.v a.t a.s
theorem Lvl.mono {c : Int} {Z : Nat → Prop} {w0 w w' : World} {base : Nat} {v : Value} {h : Nat} {K : List (Nde (El h))} (k : Lvl c Z w0 w base v h K) (hx : Mix.Ex w w') : Lvl c Z w0 w' base v h K := by
  obtain ⟨D, h1, h2, h3⟩ := k.ex
  exact ⟨D, h1, h2.ex hx, h3⟩
/-- One level's walk: what the inner loop has when it has been over the first j nodes. -/
def Nxt (c : Int) (Z : Nat → Prop) (w0 w : World) (base : Nat) (v : Value) : (h : Nat) → List (Nde (El h)) → Prop
  | 0, _ => v = .slice none 0 0
  | h + 1, K => Lvl c Z w0 w base v h (K.flatMap kids)
theorem kids_le {h : Nat} : ∀ {L : List (Nde (El (h + 1)))}, (∀ t ∈ L, Wok (h + 1) t) → (L.flatMap kids).length ≤ 64 * L.length
  | [], _ => by simp
  | t :: L, k => by
    rw [List.flatMap_cons, List.length_append, List.length_cons]
    have h1 : (kids t).length = t.n := by simp [kids, lst_len]
    have h2 := (k t List.mem_cons_self).2.1
    have h3 := kids_le (L := L) fun u hu => k u (List.mem_cons_of_mem _ hu)
    omega
theorem flat_pV {h : Nat} : ∀ (L : List (An h)), L.flatMap pV = L.map (·.v)
  | [] => rfl
  | a :: L => by rw [List.flatMap_cons, flat_pV L]; rfl
/-- How long a slice is. -/
def lenV : Value → Nat
  | .slice _ n _ => n
  | _ => 0
theorem Row.kept_apart {α β : Type} {w w' : World} {b b' sz sz' : Nat} {e e' : TypeId} {f : α → List Value} {f' : β → List Value} {v v' : Value} {L : List α} {L' : List β} (h : w.Row b e sz f v L) (h' : w.Row b' e' sz' f' v' L') (he : e ≠ e') (hg : w.grownBy w' v'.ownBlock) : w'.Row b e sz f v L := by
  refine h.kept hg ?_
  cases hk : v.ownBlock with
  | none => exact .inl rfl
  | some k => exact .inr (Ne.symm (h.apart h' he k hk))
theorem lvT_some {cnt : Int} {rc : R} {h : Nat} {t : Nde (El h)} : lvT ⟨cnt, rc, some ⟨h, t⟩⟩ = lvN h [t] := rfl
set_option maxRecDepth 100000 in
set_option maxHeartbeats 3200000 in
theorem zzCounts_c {c : Int} {Z : Nat → Prop} {w : World} {tr : Nat} {T : Tre} {cw : Value} {s : Nat → Prop} (hM : TreeM c Z w tr T cw s) (hO : TreOk T) (hT : (itT T).length ≤ 900000) (hh : (lvT T).length ≤ 1000001) :
    Calls Try.prog 44 #[.pointer (some ⟨tr, 0, none⟩)] w fun e w' => ∃ v, e = .returned v ∧ LvRow w' w.heap.size v (lvT T) ∧ Mix.Ex w w' := by
  obtain ⟨i0, hi0, hz0, hz1, hz2⟩ := info_parts info_int
  obtain ⟨j0, hj0, hy0, hy1, hy2⟩ := info_parts info_ints
  obtain ⟨k0, hk0, hx0, hx1, hx2⟩ := info_parts info_ptr
  obtain ⟨rt, hTr, hR⟩ := hM.at_
  unfold TreeAt at hTr
  have h6 : w.cell? ⟨tr, 6, none⟩ = some rt := by rw [cellOf hTr]; rfl
  obtain ⟨B, hB⟩ : ∃ B, w.heap.size = B := ⟨_, rfl⟩
  obtain ⟨cnt, rc, root⟩ := T
  dsimp only at hR
  clear hTr hM
  cases root with
  | none =>
    obtain ⟨rfl, -⟩ := hR
    go_enter Try.func44, Try.ntmps44
    go_wp2_with fail
    go_ret
    exact ⟨_, rfl, ⟨[], rfl, .nil lV_len, fun x h => by cases h⟩, Mix.Ex.refl _⟩
  | some q =>
    have hRO := hO.root (q := q) rfl
    obtain ⟨h, t⟩ := q
    have hi : itT ⟨cnt, rc, some ⟨h, t⟩⟩ = itsN h t := rfl
    rw [hi] at hT
    rw [lvT_some] at hh ⊢
    have hE : ElAt c Z w (h + 1) rt t s := hR
    obtain ⟨p, rfl⟩ := hE.ptr
    obtain ⟨hr1, -, hr3⟩ := hRO
    have hwk : Wok h t := ⟨hr1, hr3⟩
    have HE := Lib.hid hE
    clear hO hR hr1 hr3 hE
    generalize hTot : lvN h [t] = tot at hh ⊢
    have hxa := (Mix.Ex.refl w).alloc (.cells #[.pointer (some ⟨p, 0, none⟩)] 92)
    have n5 := heap_alloc_new w (.cells #[.pointer (some ⟨p, 0, none⟩)] 92)
    go_enter Try.func44, Try.ntmps44
    go_upto_region 5 with (fail)
    change Code.wp _ _ _ _ (w.alloc (.cells #[.pointer (some ⟨p, 0, none⟩)] 92))
    rw [hB] at n5
    generalize (w.alloc (.cells #[.pointer (some ⟨p, 0, none⟩)] 92)) = w1 at hxa n5 ⊢
    have hlv : Lvl c Z w w1 B (.slice (some ⟨B, 0, none⟩) 1 1) h [t] := ⟨[⟨_, t, s⟩], rfl, World.Row.one pV_len (Nat.le_refl _) n5, fun a ha => by simp at ha; subst ha; exact HE.out⟩
    clear h6
    go_loopw [3, 4] (fun vo vl wr => (∃ done : List (List Nat), LvRow wr B vo done ∧ lenV vo = done.length ∧
        ((∃ (h' : Nat) (K : List (Nde (El h'))), Lvl c Z w wr B vl h' K ∧ K ≠ [] ∧ (∀ t ∈ K, Wok h' t) ∧ tot = done ++ lvN h' K ∧ (K.flatMap (itsN h')).length ≤ 900000) ∨ (vl = .slice none 0 0 ∧ tot = done))) ∧ Mix.Ex w wr) (fun vo _ _ => tot.length - lenV vo)
    case atStart =>
      refine ⟨⟨[], ⟨[], rfl, .nil lV_len, fun x h => by cases h⟩, rfl, .inl ⟨h, [t], hlv, by simp, fun u hu => ?_, hTot.symm, ?_⟩⟩, hxa⟩
      · simp at hu; subst hu; exact hwk
      · simpa using hT
    case round =>
      obtain ⟨⟨done, ⟨D, hD, hDr, hDx⟩, hlen, hcase⟩, hx⟩ := hrel
      obtain ⟨oo, co, rfl, -⟩ := hDr.slice
      have hdl : D.length = done.length := by rw [← hD, List.length_map]
      rcases hcase with ⟨h', K, ⟨LV, hLK, hLr, hLe⟩, hKn, hKw, htot, hK9⟩ | ⟨rfl, htot⟩
      case inr =>
        go_wp2_with fail
        go_ret
        subst htot
        exact ⟨_, rfl, ⟨D, hD, by rw [hB]; exact hDr, fun x hx => by rw [hB]; exact hDx x hx⟩, hx⟩
      obtain ⟨om, cm, rfl, hom⟩ := hLr.slice
      obtain ⟨m, hmm⟩ : ∃ m, LV.length = m := ⟨_, rfl⟩
      have hKl : K.length = m := by rw [← hLK, List.length_map, hmm]
      rw [hmm] at hLr hom ⊢
      have hm9 : m ≤ 900000 := by rw [← hKl]; exact Nat.le_trans (level_le hKw) hK9
      have hm0 : 0 < m := by rw [← hKl]; exact List.length_pos_iff.2 hKn
      obtain ⟨gm, rfl⟩ := hom hm0
      have hbs := hx.below.size
      have HDR := Lib.hid hDr
      have HDX := Lib.hid hDx
      have HLR := Lib.hid hLr
      have HLE := Lib.hid hLe
      have HLK := Lib.hid hLK
      have HKW := Lib.hid hKw
      have HX := Lib.hid hx
      have HM := Lib.hid hmm
      have HD := Lib.hid hD
      have HTOT := Lib.hid htot
      have HLEN := Lib.hid hlen
      rw [hdl] at HDR HLEN ⊢
      clear hDr hDx hLr hLe hLK hKw hx hmm hD htot hlen
      clear hbs
      generalize wr = wo at HDR HDX HLR HX ⊢
      have hbs := HX.out.below.size
      go_upto_region 9 with (fail)
      obtain ⟨H0, hH0⟩ : ∃ H0, wo.heap.size = H0 := ⟨_, rfl⟩
      rw [hH0] at hbs
      go_loopw [5, 6, 24] (fun vc vn i wq => ∃ jj : Nat, jj ≤ m ∧ i = .int .i64 jj ∧ wq.Row H0 3 1 nI vc ((K.take jj).map (·.n)) ∧ Nxt c Z w wq H0 vn h' (K.take jj) ∧ Mix.Ex wo wq) (fun _ _ i _ => m - (intOf i).toNat)
      case atStart =>
        refine ⟨0, by omega, rfl, .nil nI_len, ?_, Mix.Ex.refl _⟩
        cases h' with
        | zero => rfl
        | succ h' => exact ⟨[], rfl, .nil pV_len, fun a ha => by cases ha⟩
      case round =>
        obtain ⟨jj, hj, rfl, hrc, hnx, hxq⟩ := hrel
        by_cases hlj : jj < m
        case neg =>
          have hjm : jj = m := by omega
          have e : K.take jj = K := List.take_of_length_le (by omega)
          rw [e] at hrc hnx
          subst hjm
          obtain ⟨oc, cc, rfl, -⟩ := hrc.slice
          obtain ⟨nc, hnc⟩ : ∃ nc, (K.map (·.n)).length = nc := ⟨_, rfl⟩
          rw [hnc] at hrc ⊢
          clear e hnc
          have hxb := (Mix.Ex.refl wr).alloc (.cells #[.slice oc nc cc] 43)
          have hoB := (HDR.out.ex hxq).ex hxb
          have hrcB := hrc.ex hxb
          have hdxB : ∀ x ∈ D, (wr.alloc (.cells #[.slice oc nc cc] 43)).Row B 3 1 nI x.1 x.2 := fun x hx => ((HDX.out x hx).ex hxq).ex hxb
          have HXB := Lib.hid ((HX.out.trans hxq).trans hxb)
          have hqs := hxq.below.size
          have hdl9 : D.length ≤ 1000001 := by
            have h1 := congrArg List.length HTOT.out
            rw [List.length_append] at h1
            omega
          have hnxB : Nxt c Z w (wr.alloc (.cells #[.slice oc nc cc] 43)) H0 u6 h' K := by
            cases h' with
            | zero => exact hnx
            | succ h' => exact Lvl.mono hnx hxb
          have HRCB := Lib.hid hrcB
          have HDXB := Lib.hid hdxB
          have HNXB := Lib.hid hnxB
          have hn6 : ∃ o6 n6 c6, u6 = .slice o6 n6 c6 := by
            cases h' with
            | zero => exact ⟨_, _, _, hnx⟩
            | succ h' =>
              obtain ⟨DD, _, hDD, _⟩ := hnx.ex
              obtain ⟨o6, c6, h6, -⟩ := hDD.slice
              exact ⟨_, _, _, h6⟩
          obtain ⟨o6, n6, c6, rfl⟩ := hn6
          clear hrc hnx hxq hxb hrcB hdxB hnxB
          go_wp2_with (at_builtin; refine wpList_append_row _ rfl (.tmp 49) (.tmp 51) 55 rfl B 43 j0 _ 1 24 Try.underlying55 hj0 hy0 hy1 hy2 rfl (by omega) lV (.slice oo done.length co) D (.slice oc nc cc, K.map (·.n)) rfl hoB ⟨wr.heap.size, 0, none⟩ 1 rfl (World.news_of_block (heap_alloc_new _ _)) (by intro u hu; simp [lV] at hu; subst hu; rfl) (by unfold maxLen; omega) (by omega) (by simp; omega) ?_; intro g2 cap2 w3 hrow3 hgrow hat2 hlt2)
          have hx3 := HXB.out.grown hgrow (fun j hj => by have := (hoB.lt j hj).1; omega)
          rw [hdl] at hrow3
          have hx3' : LvRow w3 B (.slice (some ⟨g2, 0, none⟩) (done.length + 1) cap2) (done ++ [K.map (·.n)]) := by
            refine ⟨D ++ [(.slice oc nc cc, K.map (·.n))], by rw [List.map_append, HD.out]; rfl, hrow3, fun x hx => ?_⟩
            rcases List.mem_append.1 hx with hx | hx
            · exact Row.kept_apart (HDXB.out x hx) hoB (by decide) hgrow
            · simp only [List.mem_singleton] at hx
              subst hx
              exact (Row.kept_apart HRCB.out hoB (by decide) hgrow).mono (by omega)
          have hnx3 : Nxt c Z w w3 B (.slice o6 n6 c6) h' K := by
            cases h' with
            | zero => exact HNXB.out
            | succ h' =>
              obtain ⟨DD, hD1, hD2, hD3⟩ := (show Lvl c Z w _ H0 _ h' (K.flatMap kids) from HNXB.out).ex
              exact ⟨DD, hD1, (Row.kept_apart hD2 hoB (by decide) hgrow).mono (by omega), hD3⟩
          have htl : done.length < tot.length := by
            have h1 := congrArg List.length HTOT.out
            rw [List.length_append, lvN_len] at h1
            omega
          have HX3 := Lib.hid hx3
          have HR3 := Lib.hid hx3'
          have HN3 := Lib.hid hnx3
          clear hx3 hx3' hnx3 hgrow hat2 hrow3 hoB
          go_wp2_with fail
          go_roundw
          case measure => simp only [lenV]; omega
          case rel =>
            refine ⟨⟨done ++ [K.map (·.n)], HR3.out, by simp [lenV], ?_⟩, HX3.out⟩
            cases h' with
            | zero => exact .inr ⟨HN3.out, HTOT.out⟩
            | succ h' =>
              refine .inl ⟨h', K.flatMap kids, HN3.out, ?_, ?_, ?_, ?_⟩
              · intro e
                cases K with
                | nil => exact hKn rfl
                | cons t K =>
                  have h1 := (HKW.out t List.mem_cons_self).1
                  have h2 := congrArg List.length e
                  rw [List.flatMap_cons, List.length_append] at h2
                  have h3 : (kids t).length = t.n := by simp [kids, lst_len]
                  simp only [List.length_nil] at h2
                  omega
              · intro u hu
                obtain ⟨t, ht, hu⟩ := List.mem_flatMap.1 hu
                exact (HKW.out t ht).kids u hu
              · rw [HTOT.out, List.append_assoc]; rfl
              · rw [flat_kids]; exact hK9
        obtain ⟨a, haj⟩ : ∃ a, LV[jj]? = some a := ⟨LV[jj]'(by have := HM.out; omega), List.getElem?_eq_getElem _⟩
        have hKj : K[jj]? = some a.t := by rw [← HLK.out, List.getElem?_map, haj]; rfl
        have hwa := HKW.out _ (List.mem_of_getElem? hKj)
        obtain ⟨p1, q1, ic, X, hv, ⟨hN, hL, -, hpq, hn⟩, hE1, he1, -⟩ := HLE.out a (List.mem_of_getElem? haj)
        have HN0 := Lib.hid hN
        have HL0 := Lib.hid hL
        have hNq := hN.ex (HX.out.trans hxq)
        have hLq : ListAt wr q1 (elT (leafB h')) (fE (mp An.v X)) := (Chg.ex (S := fun _ => False) (HX.out.trans hxq)).list hL (fun h => h)
        have hlc := (HLR.out.ex hxq).cell (j := 0) (u := a.v) haj rfl
        rw [Nat.mul_one, Nat.add_zero, hv] at hlc
        have hsn : (K.take (jj + 1)).map (·.n) = (K.take jj).map (·.n) ++ [a.t.n] := by rw [takeN_snoc hKj]; simp
        have htk := takeN_snoc hKj
        have hll : ((K.take jj).map (·.n)).length = jj := by rw [List.length_map, List.length_take]; omega
        have c2 : wr.cell? ⟨p1, 2, none⟩ = some (.int .i16 a.t.n) := hNq.cell2
        have HSN := Lib.hid hsn
        have HLL := Lib.hid hll
        have HTK := Lib.hid htk
        have HNQ := Lib.hid hNq
        have HLQ := Lib.hid hLq
        have HE1 := Lib.hid hE1
        have HHE := Lib.hid he1
        have HV := Lib.hid hv
        clear hsn hll htk hKj haj hN hL hE1 he1 hv hNq hLq
        obtain ⟨nn, hnn⟩ : ∃ nn, a.t.n = nn := ⟨_, rfl⟩
        rw [hnn] at c2 hn HSN
        have HNN := Lib.hid hnn
        have n0 : (0 : Int) ≤ (nn : Int) := by omega
        have n1 : (nn : Int) ≤ 64 := by omega
        clear hnn
        generalize hA1 : (K.take jj).map (·.n) = A1 at hrc HSN HLL
        clear hA1
        have hxb := (Mix.Ex.refl wr).alloc (.cells #[.int .i64 nn] 3)
        have hrcB := hrc.ex hxb
        have hq2 := hxq.trans hxb
        have HXQ := Lib.hid hq2
        have HXB := Lib.hid hxb
        have hqs := hxq.below.size
        clear hrc hxq hxb hq2
        go_wp2_with (at_builtin; refine wpList_append_row _ rfl (.tmp 28) (.tmp 34) 43 rfl H0 3 i0 _ 1 8 Try.underlying43 hi0 hz0 hz1 hz2 rfl (by omega) nI u5 A1 nn rfl hrcB ⟨wr.heap.size, 0, none⟩ 1 rfl (World.news_of_block (heap_alloc_new _ _)) (nI_one nn) (by rw [HLL.out]; unfold maxLen; omega) (by rw [HLL.out]; omega) (by simp; omega) ?_; intro g2 cap2 w3 hrow3 hgrow hat2 hlt2)
        have hx3 := HXQ.out.grown hgrow (fun j hj => by have := (hrcB.lt j hj).1; omega)
        rw [← HSN.out] at hrow3
        have HROW3 := Lib.hid hrow3
        have HX3 := Lib.hid hx3
        have HGROW := Lib.hid hgrow
        have HRCB := Lib.hid hrcB
        clear hrow3 hx3 hgrow hrcB hlc c2 hat2
        cases h' with
        | zero =>
          have hvn : _ = Value.slice none 0 0 := hnx
          have hLf := leaf_c w3 p1 _ (HN0.out.ex (HX.out.trans HX3.out))
          dsimp only [leafB] at hLf
          subst hvn
          clear hnx
          refine hLf.mono ?_
          rintro e w4 ⟨rfl, rfl⟩
          go_wp2_with fail
          go_roundw
          case measure => simp [intOf]; omega
          case rel => exact ⟨jj + 1, by omega, by go_num, HROW3.out, rfl, HX3.out⟩
        | succ h' =>
          obtain ⟨DN, hDN, hDNr, hDNe⟩ := (show Lvl c Z w wr H0 _ h' ((K.take jj).flatMap kids) from hnx).ex
          have hDNr3 := Row.kept_apart (hDNr.ex HXB.out) HRCB.out (by decide) HGROW.out
          obtain ⟨on, cn, rfl, -⟩ := hDNr.slice
          have hLf := leaf_c w3 p1 _ (HN0.out.ex (HX.out.trans HX3.out))
          have hCh := fun d => children_c (w3.drewN d) p1 _ ((HN0.out.ex (HX.out.trans HX3.out)).drewN d) rfl
          dsimp only [leafB] at hLf hCh
          have c2 : w3.cell? ⟨p1, 2, none⟩ = some (.int .i16 nn) := by
            have := (HN0.out.ex (HX.out.trans HX3.out)).cell2
            rw [← HNN.out]; exact this
          have hL3 : ListAt w3 q1 (elT (leafB (h' + 1))) (fE (mp An.v X)) := (Chg.ex (S := fun _ => False) (HX.out.trans HX3.out)).list HL0.out (fun h => h)
          have hdl9 : DN.length ≤ 64 * jj := by
            have h1 := congrArg List.length hDN
            rw [List.length_map] at h1
            rw [h1]
            have h2 := kids_le (L := K.take jj) fun u hu => HKW.out u (List.mem_of_mem_take hu)
            rw [List.length_take] at h2
            omega
          have hnews : ∀ j u, (((lst nn X).map (·.2)).flatMap pV)[j]? = some u → w3.cell? ((⟨q1, 0, none⟩ : Addr).add j) = some u := by
            intro j u hj
            rw [flat_pV, List.map_map, List.getElem?_map, lst_get] at hj
            have e1 : ((⟨q1, 0, none⟩ : Addr).add j) = ⟨q1, j, none⟩ := by cases j <;> simp [Addr.add]
            by_cases hjn : j < nn
            · rw [if_pos hjn] at hj
              simp only [Option.map_some, Option.some.injEq, Function.comp_apply] at hj
              rw [e1, hL3.cell (i := j) (by omega), ← hj]; rfl
            · rw [if_neg hjn] at hj; cases hj
          have hone : ∀ y ∈ (lst nn X).map (·.2), ∀ u ∈ pV y, u.oneCell' = true := by
            intro y hy u hu
            obtain ⟨e, he, rfl⟩ := List.mem_map.1 hy
            obtain ⟨p2, hp2⟩ := (HHE.out e (by rw [HNN.out]; exact he)).ptr
            simp only [pV, List.mem_singleton] at hu
            subst hu
            rw [hp2]; rfl
          have HDN := Lib.hid hDN
          have HDE := Lib.hid hDNe
          clear hDN hDNr hDNe hnx hL3
          refine hLf.mono ?_
          rintro e w4 ⟨rfl, rfl⟩
          clear hLf
          have hbs4 := HX3.out.below.size
          go_upto_region 13 with (fail)
          (refine Mix.wp_region_drw 8 [1] (by kernel_rfl) (by kernel_rfl) ?_; simp only [List.take_succ_cons, List.take_zero, List.drop_succ_cons, List.drop_zero]; (repeat (go_big_quiet_step ((go_at_call 63; exact Mix.calls_q (hCh _) ⟨_, rfl⟩)))); refine wpQuiet_nil ?_)
          refine Mix.wpTl_append_list (.tmp 39) (.tmp 46) 105 rfl H0 92 k0 _ 1 8 Try.underlying105 hk0 hx0 hx1 hx2 rfl (by omega) pV (.slice on DN.length cn) DN ((lst nn X).map (·.2)) rfl hDNr3 ⟨q1, 0, none⟩ nn 64 (by simp [lst_len]) rfl hnews hone (by unfold maxLen; omega) (by omega) (by omega) ?_
          intro v5 w5 hrow5 hgrow5 hat5
          refine ⟨trivial, ?_⟩
          (simp only [Act.put, List.setIfInBounds_toArray, List.set_cons_zero, List.set_cons_succ, List.take_succ_cons, List.take_zero, List.drop_succ_cons, List.drop_zero])
          (repeat (go_big_quiet_step (fail)))
          (refine wpQuiet_nil ?_; intro nq)
          have hx5 := HX3.out.grown hgrow5 (fun j hj => by have := (hDNr3.lt j hj).1; omega)
          have hc5 := Row.kept_apart HROW3.out hDNr3 (by decide) hgrow5
          have hmap : (DN ++ (lst nn X).map (·.2)).map (·.t) = (K.take (jj + 1)).flatMap kids := by
            rw [HTK.out, List.flatMap_append, List.map_append, HDN.out]
            congr 1
            rw [List.flatMap_singleton]
            unfold kids
            rw [HNN.out, HE1.out, lst_mp, List.map_map, List.map_map]
            rfl
          have hel : ∀ b ∈ DN ++ (lst nn X).map (·.2), ElAt c Z w (h' + 1) b.v b.t b.s := by
            intro b hb
            rcases List.mem_append.1 hb with hb | hb
            · exact HDE.out b hb
            · obtain ⟨e, he, rfl⟩ := List.mem_map.1 hb
              exact HHE.out e (by rw [HNN.out]; exact he)
          have HX5 := Lib.hid hx5
          have HC5 := Lib.hid hc5
          have HR5 := Lib.hid hrow5
          have HMP := Lib.hid hmap
          have HEL := Lib.hid hel
          clear hx5 hc5 hrow5 hmap hel hgrow5 hat5 hnews hone c2 hDNr3 hCh
          go_wp2_with fail
          go_roundw
          case measure => simp [intOf]; omega
          case rel => exact ⟨jj + 1, by omega, by go_num, HC5.out.ex ((Mix.Ex.refl _).drewN _), ⟨_, HMP.out, HR5.out.ex ((Mix.Ex.refl _).drewN _), HEL.out⟩, HX5.out.drewN _⟩
end Go.Proofs.Ytboeldlilkeihaa
