/- What Nearby lays; its closures. -/
import Derived.Test.YtboeldlilkeihaaRgC
import Derived.Test.YtboeldlilkeihaaQue
import Derived.Test.YtboeldlilkeihaaNrb
set_option linter.unusedSimpArgs false
set_option linter.unusedVariables false
/- As RgC: what follows may also wait for something that has not come up. No program in sight. -/
namespace Go
section
variable {P : Program} {ops : Array Oper} {Q : Exit → Act → World → Prop} {C : World → Prop} {k : Nat}
def rgE (ops : Array Oper) (listed : Array Bool) (us : List Nat) : Bool :=
  apartU ops us && (us.all fun i => !(listed.getD i true) && match ops[i]? with
    | none => false
    | some o => o.guard.isNone && o.after.all fun e => !(Region.binds .any e) || (listed.getD e.on false || (us.contains e.on && Nat.blt e.on i))) &&
  (List.range ops.size).all fun j => listed.getD j true || (us.contains j || ((us.all fun i => reachC ops us (us.length + 1) j i) || match ops[j]? with
    | none => false
    | some o => o.after.any fun e => Region.binds .any e && !(us.contains e.on) && !(listed.getD e.on false)))
/-- **Whatever order is picked.** B i: what holds till operation i comes up; A i: what operation i's value is in the world; G i: how it may turn the world; I: what holds of each world on the way. -/
theorem wpAnyK_rgE {us : List Nat} {listed0 : Array Bool} {a0 : Act} {w0 : World} (B : Nat → World → Prop) (A : Nat → Value → World → Prop) (G : Nat → World → World → Prop) (I : World → Prop) (hB : rgE ops listed0 us = true) (f : Nat)
    (hIC : ∀ W, I W → C W) (hI0 : I w0) (hB0 : ∀ i ∈ us, B i w0)
    (hBs : ∀ i ∈ us, ∀ j ∈ us, i ≠ j → ∀ w w', B i w → G j w w' → B i w')
    (hst : ∀ i ∈ us, ∀ j ∈ us, i ≠ j → ∀ v w w', A i v w → G j w w' → A i v w')
    (hop : ∀ i ∈ us, ∀ o, ops[i]? = some o → ∀ x w, I w → B i w → (∀ e ∈ o.after.toList, Region.binds .any e = true → us.contains e.on = true → A e.on (x e.on) w) →
      ∀ K : Act → World → Prop, (∀ v w', I w' → G i w w' → A i v w' → K ((putU ops us x a0).put o.dst v) w') → Oper.wp P o (putU ops us x a0) w K Q)
    (hend : ∀ x w, I w → (∀ i ∈ us, A i (x i) w) → wpAnyK P ops Q C k f (setAll us listed0) (putU ops us x a0) w) :
    wpAnyK P ops Q C k (f + us.length) listed0 a0 w0 := by
  simp only [rgE, Bool.and_eq_true] at hB
  obtain ⟨⟨hap, hus⟩, hoth⟩ := hB
  have hus' : ∀ i ∈ us, listed0.getD i true = false ∧ ∃ o, ops[i]? = some o ∧ o.guard = none ∧ ∀ e ∈ o.after, Region.binds .any e = true → listed0.getD e.on false = true ∨ (e.on ∈ us ∧ e.on < i) := by
    intro i hi
    have h := List.all_eq_true.1 hus i hi
    simp only [Bool.and_eq_true, Bool.not_eq_true'] at h
    obtain ⟨h1, h2⟩ := h
    cases ho : ops[i]? with
    | none => rw [ho] at h2; cases h2
    | some o =>
      rw [ho] at h2
      simp only [Bool.and_eq_true, Option.isNone_iff_eq_none] at h2
      obtain ⟨h2, h3⟩ := h2
      refine ⟨h1, o, rfl, h2, fun e he hb => ?_⟩
      have h4 := Array.all_eq_true_iff_forall_mem.1 h3 e he
      rw [hb] at h4
      simp only [Bool.not_true, Bool.false_or, Bool.or_eq_true, Bool.and_eq_true, List.contains_iff_mem] at h4
      rcases h4 with h4 | ⟨h4, h5⟩
      · exact .inl h4
      · exact .inr ⟨h4, by simpa [Nat.blt_eq] using h5⟩
  have hoth' : ∀ j o, ops[j]? = some o → listed0.getD j true = false → j ∉ us → (∀ i ∈ us, reachC ops us (us.length + 1) j i = true) ∨ ∃ e ∈ o.after, Region.binds .any e = true ∧ e.on ∉ us ∧ listed0.getD e.on false = false := by
    intro j o ho hl hj
    have h := List.all_eq_true.1 hoth j (List.mem_range.2 (Array.getElem?_eq_some_iff.1 ho).1)
    rw [hl] at h
    simp only [Bool.false_or, Bool.or_eq_true, List.contains_iff_mem] at h
    have h := h.resolve_left hj
    rcases h with h | h
    · exact .inl fun i hi => List.all_eq_true.1 h i hi
    · rw [ho] at h
      obtain ⟨e, he, hb⟩ := Array.any_eq_true'.1 h
      simp only [Bool.and_eq_true, Bool.not_eq_true', List.contains_eq_mem, decide_eq_false_iff_not] at hb
      exact .inr ⟨e, he, hb.1.1, hb.1.2, hb.2⟩
  obtain ⟨x0, hx0⟩ := putU_start hap a0
  have main : ∀ (r : Nat) (listed : Array Bool) (x : Nat → Value) (w : World), (us.countP fun i => !(listed.getD i true)) = r → listed.size = listed0.size → (∀ j, j ∉ us → listed.getD j true = listed0.getD j true) → (∀ j, j ∉ us → listed.getD j false = listed0.getD j false) →
      I w → closedC ops us listed → (∀ i ∈ us, listed.getD i true = false → B i w) → (∀ i ∈ us, listed.getD i true = true → A i (x i) w) → wpAnyK P ops Q C k (f + r) listed (putU ops us x a0) w := by
    intro r
    induction r with
    | zero =>
      intro listed x w hc hs hn _ hI _ _ hA
      have hall : ∀ i ∈ us, listed.getD i true = true := fun i hi => by
        have := List.countP_eq_zero.1 hc i hi
        simpa using this
      have e : listed = setAll us listed0 := by
        apply Array.ext
        · rw [setAll_size, hs]
        · intro j h1 h2
          have h3 := setAll_get us listed0 j (by omega)
          have h4 : listed.getD j true = (listed0.getD j true || us.contains j) := by
            by_cases hj : j ∈ us
            · rw [hall j hj]; simp [hj]
            · rw [hn j hj]; simp [hj]
          rw [← h3] at h4
          simpa [h1, h2] using h4
      rw [e]
      exact hend x w hI fun i hi => hA i hi (hall i hi)
    | succ r ih =>
      intro listed x w hc hs hn hn' hI hcl hBB hA
      have hone : ∃ i ∈ us, (!(listed.getD i true)) = true := by
        have : 0 < us.countP fun i => !(listed.getD i true) := by omega
        exact List.countP_pos_iff.1 this
      refine ⟨fun hr => ?_, fun i hi => ?_⟩
      · exfalso
        obtain ⟨i, hi, hp, hleast⟩ := exists_leastU hone
        obtain ⟨_, o, ho, _, haft⟩ := hus' i hi
        have : i ∈ Region.ready .any ops listed := mem_ready.2 ⟨by simpa using hp, o, ho, fun e he hb => by
          rcases haft e he hb with h | ⟨h, hlt⟩
          · by_cases hu : e.on ∈ us
            · have h1 := (hus' _ hu).1
              have := (getD_ff h1).1
              rw [this] at h; cases h
            · rw [hn' _ hu]; exact h
          · have h1 := hleast _ h hlt
            have h2 : listed.getD e.on true = true := by simpa using h1
            have h3 := (getD_ff (hus' _ h).1).2
            rw [← hs] at h3
            simpa [h3] using h2⟩
        rw [hr] at this
        cases this
      · obtain ⟨hun, o, ho, hall⟩ := mem_ready.1 hi
        by_cases hu : i ∈ us
        · obtain ⟨_, o', ho', hg, _⟩ := hus' i hu
          rw [ho] at ho'
          obtain rfl := Option.some.inj ho'
          unfold wpOp
          simp only [ho, Region.wanted, hg, if_true]
          refine .inl (hop i hu o ho x w hI (hBB i hu hun) (fun e he hb hc => hA _ (by simpa using hc) ?_) _ fun v w' hI' hG hAv => ?_)
          · have h := hall e (Array.mem_toList_iff.1 he) hb
            have hc' : e.on ∈ us := by simpa using hc
            have h3 := (getD_ff (hus' _ hc').1).2
            rw [← hs] at h3
            simpa [h3] using h
          · have hd : o.dst = dstOf ops i := by unfold dstOf; rw [ho]; rfl
            rw [hd, putU_put hap hu]
            have hlt := (getD_ff hun).2
            refine ⟨fun _ => hIC _ hI', ih _ _ _ ?_ (by simpa using hs) (fun j hj => ?_) (fun j hj => ?_) hI' (hcl.set ho hall) (fun j hj hl => ?_) (fun j hj hl => ?_)⟩
            · have h := countP_upd (apartU_nodup hap) hu (p := fun i => !(listed.getD i true)) (q := fun j => !((listed.setIfInBounds i true).getD j true)) (by simp [hun]) (by simp [hlt]) (fun j _ hji => by rw [getD_set_ne true (Ne.symm hji)])
              omega
            · rw [getD_set_ne true (fun e : i = j => hj (e ▸ hu))]; exact hn j hj
            · rw [getD_set_ne false (fun e : i = j => hj (e ▸ hu))]; exact hn' j hj
            · by_cases hji : j = i
              · subst hji
                simp [hlt] at hl
              · rw [getD_set_ne true (Ne.symm hji)] at hl
                exact hBs j hj i hu hji _ _ (hBB j hj hl) hG
            · by_cases hji : j = i
              · subst hji
                have e : updN x j v j = v := if_pos rfl
                rw [e]; exact hAv
              · have e : updN x i v j = x j := if_neg hji
                rw [e]
                rw [getD_set_ne true (Ne.symm hji)] at hl
                exact hst j hj i hu hji _ _ _ (hA j hj hl) hG
        · exfalso
          rw [hn i hu] at hun
          obtain ⟨m, hm, hp⟩ := hone
          rcases hoth' i o ho hun hu with hr | ⟨e, he, hb, hne, hnl⟩
          case inr =>
            have h1 := hall e he hb
            rw [hn' _ hne, hnl] at h1
            cases h1
          have h1 := reachC_listed hcl _ ho hall (hr m hm)
          have h2 := (getD_ff (l := listed) (j := m) (by simpa using hp)).1
          rw [h2] at h1
          cases h1
  have h0 := main us.length listed0 x0 w0 (by
    rw [List.countP_eq_length]
    intro i hi
    rw [(hus' i hi).1]; rfl) rfl (fun _ _ => rfl) (fun _ _ => rfl) hI0 (fun i hi h => by rw [(hus' i hi).1] at h; cases h) (fun i hi _ => hB0 i hi) (fun i hi h => by rw [(hus' i hi).1] at h; cases h)
  rw [hx0] at h0
  exact h0
end
end Go
/- What Nearby lays: boxes, numbers and distances in three captured variables; the closures. -/
namespace Go.Proofs.Ytboeldlilkeihaa
open Go.RowKit Go.Bx
attribute [local go_sem] run_store_fl
/-- What is told of an item: its box, its number, its distance. -/
def bO (x : (R × Int) × Nat) : List Value := bI x.1
def dO (x : (R × Int) × Nat) : List Value := dI x.1
def fO (x : (R × Int) × Nat) : List Value := [.float .f64 (floatOfInt .f64 (x.2 : Int))]
theorem bO_len (x : (R × Int) × Nat) : (bO x).length = 4 := rfl
theorem dO_len (x : (R × Int) × Nat) : (dO x).length = 1 := rfl
theorem fO_len (x : (R × Int) × Nat) : (fO x).length = 1 := rfl
theorem bO_one (x : (R × Int) × Nat) : ∀ u ∈ bO x, u.oneCell' = true := bI_one x.1
theorem dO_one (x : (R × Int) × Nat) : ∀ u ∈ dO x, u.oneCell' = true := dI_one x.1
theorem fO_one (x : (R × Int) × Nat) : ∀ u ∈ fO x, u.oneCell' = true := by
  intro u hu
  simp [fO] at hu
  subst hu; rfl
theorem info_flt : (Try.prog.info? 48).map (fun i => (i.zero, i.size, i.bytes)) = some (some (.float .f64 0), 1, 8) := by kernel_rfl
/-- Three variables hold the boxes, the numbers, the distances. -/
structure Coll3 (w : World) (base pb pd pf : Nat) (O : List ((R × Int) × Nat)) : Prop where
  n1 : pb ≠ pd
  n2 : pb ≠ pf
  n3 : pd ≠ pf
  lb : pb < base
  ld : pd < base
  lf : pf < base
  bs : base ≤ w.heap.size
  vs : ∃ vb vd vf, w.heap[pb]? = some (.cells #[vb] 68 (0, 0)) ∧ w.heap[pd]? = some (.cells #[vd] 43 (0, 0)) ∧ w.heap[pf]? = some (.cells #[vf] 79 (0, 0)) ∧
    w.Row base 71 4 bO vb O ∧ w.Row base 3 1 dO vd O ∧ w.Row base 48 1 fO vf O
theorem Coll3.ex {w w' : World} {base pb pd pf : Nat} {O : List ((R × Int) × Nat)} (h : Coll3 w base pb pd pf O) (hx : Mix.Ex w w') : Coll3 w' base pb pd pf O := by
  obtain ⟨h1, h2, h3, h4, h5, h6, h7, vb, vd, vf, a1, a2, a3, a4, a5, a6⟩ := h
  exact ⟨h1, h2, h3, h4, h5, h6, Nat.le_trans h7 hx.below.size, vb, vd, vf, hx.obj a1, hx.obj a2, hx.obj a3, a4.ex hx, a5.ex hx, a6.ex hx⟩
theorem row_kpQ {α : Type} {w w' : World} {base sz : Nat} {T : TypeId} {f : α → List Value} {v : Value} {L : List α} (h : w.Row base T sz f v L) (k : KpQ w w') (h1 : T ≠ 123) (h2 : T ≠ 126) : w'.Row base T sz f v L := by
  refine h.of_block fun g hg => ?_
  rcases h.own.2 with ⟨rfl, _⟩ | ⟨g', cap, cur, rfl, _, e, _⟩
  · cases hg
  · simp only [Value.ownBlock, Option.some.injEq] at hg
    subst hg
    exact (k.2 _ _ _ _ e h1 h2).trans e.symm
theorem Coll3.kpQ {w w' : World} {base pb pd pf : Nat} {O : List ((R × Int) × Nat)} (h : Coll3 w base pb pd pf O) (k : KpQ w w') : Coll3 w' base pb pd pf O := by
  obtain ⟨h1, h2, h3, h4, h5, h6, h7, vb, vd, vf, a1, a2, a3, a4, a5, a6⟩ := h
  exact ⟨h1, h2, h3, h4, h5, h6, Nat.le_trans h7 k.1, vb, vd, vf, k.2 _ _ _ _ a1 (by decide) (by decide), k.2 _ _ _ _ a2 (by decide) (by decide), k.2 _ _ _ _ a3 (by decide) (by decide), row_kpQ a4 k (by decide) (by decide), row_kpQ a5 k (by decide) (by decide), row_kpQ a6 k (by decide) (by decide)⟩
/-- What is none of these is as it was. -/
def KpA (base pb pd pf : Nat) (w w' : World) : Prop := w.heap.size ≤ w'.heap.size ∧ ∀ (b : Nat) (cs : Array Value) (T : TypeId) (fr : Nat × Nat), w.heap[b]? = some (Obj.cells cs T fr) → ((b < base ∧ b ≠ pb ∧ b ≠ pd ∧ b ≠ pf) ∨ (base ≤ b ∧ T ≠ 71 ∧ T ≠ 3 ∧ T ≠ 48)) → w'.heap[b]? = some (Obj.cells cs T fr)
section
variable {base pb pd pf : Nat}
theorem KpA.refl (w : World) : KpA base pb pd pf w w := ⟨Nat.le_refl _, fun _ _ _ _ h _ => h⟩
theorem KpA.trans {a b c : World} (h : KpA base pb pd pf a b) (k : KpA base pb pd pf b c) : KpA base pb pd pf a c := ⟨Nat.le_trans h.1 k.1, fun i cs T fr e h1 => k.2 i cs T fr (h.2 i cs T fr e h1) h1⟩
theorem KpA.ex {a b c : World} (h : KpA base pb pd pf a b) (k : Mix.Ex b c) : KpA base pb pd pf a c := h.trans ⟨k.below.size, fun _ _ _ _ e _ => k.obj e⟩
theorem KpA.setCell {a b : World} (h : KpA base pb pd pf a b) {q o : Nat} (hq : q = pb ∨ q = pd ∨ q = pf) (hl : q < base) (u : Value) : KpA base pb pd pf a (b.setCell ⟨q, o, none⟩ u) := by
  refine h.trans ⟨by rw [World.size_setCell]; exact Nat.le_refl _, fun i cs' T' fr' e h1 => ?_⟩
  exact (setCell_ne o (show i ≠ q by omega) u none).trans e
theorem KpA.grown {α : Type} {a b c : World} (h : KpA base pb pd pf a b) {T : TypeId} {sz : Nat} {f : α → List Value} {v : Value} {L : List α} (hr : b.Row base T sz f v L) (hT : T = 71 ∨ T = 3 ∨ T = 48) (hg : b.grownBy c v.ownBlock) : KpA base pb pd pf a c := by
  refine h.trans ⟨hg.size, fun i cs T' fr e h1 => grown_keep hg e fun hv => ?_⟩
  rcases hr.own.2 with ⟨rfl, _⟩ | ⟨g, cap, cur, rfl, hb, h3, _⟩
  · cases hv
  · simp only [Value.ownBlock, Option.some.injEq] at hv
    subst hv
    rw [h3] at e
    simp only [Option.some.injEq, Obj.cells.injEq] at e
    rcases h1 with h1 | ⟨_, h4, h5, h6⟩
    · omega
    · rcases hT with hT | hT | hT
      · exact h4 (e.2.1.symm.trans hT)
      · exact h5 (e.2.1.symm.trans hT)
      · exact h6 (e.2.1.symm.trans hT)
end
/-- The queue stands. -/
theorem QAt.kpA {w w' : World} {base pb pd pf bq Bq : Nat} {L : List QN} (h : QAt w bq Bq L) (k : KpA base pb pd pf w w') (hb : base ≤ bq) : QAt w' bq Bq L := by
  obtain ⟨h1, v, h2, h3⟩ := h
  refine ⟨h1, v, k.2 _ _ _ _ h2 (.inr ⟨by omega, by decide, by decide, by decide⟩), h3.of_block fun g hg => ?_⟩
  rcases h3.own.2 with ⟨rfl, _⟩ | ⟨g', cap, cur, rfl, hb', e, _⟩
  · cases hg
  · simp only [Value.ownBlock, Option.some.injEq] at hg
    subst hg
    exact (k.2 _ _ _ _ e (.inr ⟨by omega, by decide, by decide, by decide⟩)).trans e.symm
set_option maxRecDepth 100000 in
set_option maxHeartbeats 1600000 in
theorem nbStop_c (w0 w : World) (base pb pd pf pn n : Nat) (O : List ((R × Int) × Nat)) (x : (R × Int) × Nat) (hC : Coll3 w base pb pd pf O) (hn : w.heap[pn]? = some (.cells #[.int .i64 (n : Int)] 3 (0, 0))) (hx0 : Mix.Ex w0 w) (he : O.length = n) :
    Calls Try.prog 61 #[.agg #[.int .i64 x.1.1.x0, .int .i64 x.1.1.y0], .agg #[.int .i64 x.1.1.x1, .int .i64 x.1.1.y1], .int .i64 x.1.2, .float .f64 (floatOfInt .f64 (x.2 : Int)), .pointer (some ⟨pd, 0, none⟩), .pointer (some ⟨pn, 0, none⟩), .pointer (some ⟨pb, 0, none⟩), .pointer (some ⟨pf, 0, none⟩)] w fun e w' => e = .returned (.bool false) ∧ Mix.Ex w w' := by
  obtain ⟨i0, hi0, hz0, hz1, hz2⟩ := info_parts info_rbox
  obtain ⟨j0, hj0, hy0, hy1, hy2⟩ := info_parts info_int
  obtain ⟨k0, hk0, hw0, hw1, hw2⟩ := info_parts info_flt
  obtain ⟨n1, n2, n3, lb, ld, lf, hbs, vb, vd, vf, hvb, hvd, hvf, hrb, hrd, hrf⟩ := hC
  have NBD := Lib.hid (hrb.apart hrd (by decide))
  have NBF := Lib.hid (hrb.apart hrf (by decide))
  have NDF := Lib.hid (hrd.apart hrf (by decide))
  obtain ⟨od, capd, hvs, hod⟩ := hrd.slice
  clear hod
  have c1 : w.cell? ⟨pd, 0, none⟩ = some (.slice od O.length capd) := by rw [cellOf hvd, ← hvs]; rfl
  have c2 : w.cell? ⟨pn, 0, none⟩ = some (.int .i64 (n : Int)) := by rw [cellOf hn]; rfl
  obtain ⟨m, hm⟩ : ∃ m, O.length = m := ⟨_, rfl⟩
  rw [hm] at c1
  have HVB := Lib.hid hvb
  have HVD := Lib.hid hvd
  have HVF := Lib.hid hvf
  have HRB := Lib.hid hrb
  have HRD := Lib.hid hrd
  have HRF := Lib.hid hrf
  have HX0 := Lib.hid hx0
  clear hvb hvd hvf hrb hrd hrf hx0 hvs hn
  have hxa := ((Mix.Ex.refl w).alloc (.cells #[.int .i64 x.1.1.x0, .int .i64 x.1.1.y0] 28)).alloc (.cells #[.int .i64 x.1.1.x1, .int .i64 x.1.1.y1] 28)
  have n5 := ((Mix.Ex.refl (w.alloc (.cells #[.int .i64 x.1.1.x0, .int .i64 x.1.1.y0] 28))).alloc (.cells #[.int .i64 x.1.1.x1, .int .i64 x.1.1.y1] 28)).obj (heap_alloc_new w (.cells #[.int .i64 x.1.1.x0, .int .i64 x.1.1.y0] 28))
  have n6 := heap_alloc_new (w.alloc (.cells #[.int .i64 x.1.1.x0, .int .i64 x.1.1.y0] 28)) (.cells #[.int .i64 x.1.1.x1, .int .i64 x.1.1.y1] 28)
  rw [World.size_alloc] at n6
  have c1 := hxa.cell c1
  have c2 := hxa.cell c2
  go_enter Try.func61, Try.ntmps61
  go_upto_region 1 with (fail)
  change Code.wp _ _ _ _ ((w.alloc (.cells #[.int .i64 x.1.1.x0, .int .i64 x.1.1.y0] 28)).alloc (.cells #[.int .i64 x.1.1.x1, .int .i64 x.1.1.y1] 28))
  generalize ((w.alloc (.cells #[.int .i64 x.1.1.x0, .int .i64 x.1.1.y0] 28)).alloc (.cells #[.int .i64 x.1.1.x1, .int .i64 x.1.1.y1] 28)) = w1 at hxa n5 n6 c1 c2 ⊢
  have e0 : ((m : Int) == n) = true := by simp; omega
  have HXA := Lib.hid hxa
  clear hxa n5 n6
  go_wp2_with fail
  go_ret
  exact ⟨rfl, HXA.out⟩
set_option maxRecDepth 100000 in
set_option maxHeartbeats 6400000 in
theorem nbIter_c (w0 w : World) (base pb pd pf pn n : Nat) (O : List ((R × Int) × Nat)) (x : (R × Int) × Nat) (hC : Coll3 w base pb pd pf O) (hn : w.heap[pn]? = some (.cells #[.int .i64 (n : Int)] 3 (0, 0))) (hx0 : Mix.Ex w0 w) (he : O.length ≠ n) (hl : O.length ≤ 900000) (hb0 : w0.heap.size ≤ pb) (hd0 : w0.heap.size ≤ pd) (hf0 : w0.heap.size ≤ pf) :
    Calls Try.prog 61 #[.agg #[.int .i64 x.1.1.x0, .int .i64 x.1.1.y0], .agg #[.int .i64 x.1.1.x1, .int .i64 x.1.1.y1], .int .i64 x.1.2, .float .f64 (floatOfInt .f64 (x.2 : Int)), .pointer (some ⟨pd, 0, none⟩), .pointer (some ⟨pn, 0, none⟩), .pointer (some ⟨pb, 0, none⟩), .pointer (some ⟨pf, 0, none⟩)] w fun e w' => e = .returned (.bool true) ∧ Coll3 w' base pb pd pf (O ++ [x]) ∧ Mix.Ex w0 w' ∧ KpA base pb pd pf w w' := by
  obtain ⟨i0, hi0, hz0, hz1, hz2⟩ := info_parts info_rbox
  obtain ⟨j0, hj0, hy0, hy1, hy2⟩ := info_parts info_int
  obtain ⟨k0, hk0, hw0, hw1, hw2⟩ := info_parts info_flt
  obtain ⟨n1, n2, n3, lb, ld, lf, hbs, vb, vd, vf, hvb, hvd, hvf, hrb, hrd, hrf⟩ := hC
  have NBD := Lib.hid (hrb.apart hrd (by decide))
  have NBF := Lib.hid (hrb.apart hrf (by decide))
  have NDF := Lib.hid (hrd.apart hrf (by decide))
  obtain ⟨od, capd, hvs, hod⟩ := hrd.slice
  clear hod
  have c1 : w.cell? ⟨pd, 0, none⟩ = some (.slice od O.length capd) := by rw [cellOf hvd, ← hvs]; rfl
  have c2 : w.cell? ⟨pn, 0, none⟩ = some (.int .i64 (n : Int)) := by rw [cellOf hn]; rfl
  obtain ⟨m, hm⟩ : ∃ m, O.length = m := ⟨_, rfl⟩
  rw [hm] at c1
  have HVB := Lib.hid hvb
  have HVD := Lib.hid hvd
  have HVF := Lib.hid hvf
  have HRB := Lib.hid hrb
  have HRD := Lib.hid hrd
  have HRF := Lib.hid hrf
  have HX0 := Lib.hid hx0
  clear hvb hvd hvf hrb hrd hrf hx0 hvs hn
  have hxa := ((Mix.Ex.refl w).alloc (.cells #[.int .i64 x.1.1.x0, .int .i64 x.1.1.y0] 28)).alloc (.cells #[.int .i64 x.1.1.x1, .int .i64 x.1.1.y1] 28)
  have n5 := ((Mix.Ex.refl (w.alloc (.cells #[.int .i64 x.1.1.x0, .int .i64 x.1.1.y0] 28))).alloc (.cells #[.int .i64 x.1.1.x1, .int .i64 x.1.1.y1] 28)).obj (heap_alloc_new w (.cells #[.int .i64 x.1.1.x0, .int .i64 x.1.1.y0] 28))
  have n6 := heap_alloc_new (w.alloc (.cells #[.int .i64 x.1.1.x0, .int .i64 x.1.1.y0] 28)) (.cells #[.int .i64 x.1.1.x1, .int .i64 x.1.1.y1] 28)
  rw [World.size_alloc] at n6
  have c1 := hxa.cell c1
  have c2 := hxa.cell c2
  go_enter Try.func61, Try.ntmps61
  go_upto_region 1 with (fail)
  change Code.wp _ _ _ _ ((w.alloc (.cells #[.int .i64 x.1.1.x0, .int .i64 x.1.1.y0] 28)).alloc (.cells #[.int .i64 x.1.1.x1, .int .i64 x.1.1.y1] 28))
  generalize ((w.alloc (.cells #[.int .i64 x.1.1.x0, .int .i64 x.1.1.y0] 28)).alloc (.cells #[.int .i64 x.1.1.x1, .int .i64 x.1.1.y1] 28)) = w1 at hxa n5 n6 c1 c2 ⊢
  have e0 : ((m : Int) == n) = false := by simp; omega
  obtain ⟨B5, hB5⟩ : ∃ B5, w.heap.size = B5 := ⟨_, rfl⟩
  obtain ⟨B6, hB6⟩ : ∃ B6, w.heap.size + 1 = B6 := ⟨_, rfl⟩
  rw [hB6] at n6 ⊢
  rw [hB5] at n5 ⊢
  have hvb := hxa.obj HVB.out
  have hvd := hxa.obj HVD.out
  have hvf := hxa.obj HVF.out
  have hrb := HRB.out.ex hxa
  have hrd := HRD.out.ex hxa
  have hrf := HRF.out.ex hxa
  have hx1 := HX0.out.trans hxa
  have hk1 := (KpA.refl (base := base) (pb := pb) (pd := pd) (pf := pf) w).ex hxa
  have LBW : Hid (∀ k, vb.ownBlock = some k → base ≤ k ∧ k < B5) := Lib.hid fun k hk => hB5 ▸ HRB.out.lt k hk
  have LDW : Hid (∀ k, vd.ownBlock = some k → base ≤ k ∧ k < B5) := Lib.hid fun k hk => hB5 ▸ HRD.out.lt k hk
  have LFW : Hid (∀ k, vf.ownBlock = some k → base ≤ k ∧ k < B5) := Lib.hid fun k hk => hB5 ▸ HRF.out.lt k hk
  have hbs1 : base ≤ w1.heap.size := Nat.le_trans hbs hxa.below.size
  have hB1 : B6 < w1.heap.size := (Array.getElem?_eq_some_iff.1 n6).1
  clear hxa HVB HVD HVF HRB HRD HRF HX0
  have KBD : Hid (vb.ownBlock = none ∨ vb.ownBlock ≠ vd.ownBlock) := Lib.hid (by
    cases hb : vb.ownBlock with
    | none => exact .inl rfl
    | some k => exact .inr (Ne.symm (NBD.out k hb)))
  have KDB : Hid (vd.ownBlock = none ∨ vd.ownBlock ≠ vb.ownBlock) := Lib.hid (by
    cases hb : vd.ownBlock with
    | none => exact .inl rfl
    | some k => exact .inr fun e => NBD.out k e.symm hb)
  have KBF : Hid (vb.ownBlock = none ∨ vb.ownBlock ≠ vf.ownBlock) := Lib.hid (by
    cases hb : vb.ownBlock with
    | none => exact .inl rfl
    | some k => exact .inr (Ne.symm (NBF.out k hb)))
  have KFB : Hid (vf.ownBlock = none ∨ vf.ownBlock ≠ vb.ownBlock) := Lib.hid (by
    cases hb : vf.ownBlock with
    | none => exact .inl rfl
    | some k => exact .inr fun e => NBF.out k e.symm hb)
  have KDF : Hid (vd.ownBlock = none ∨ vd.ownBlock ≠ vf.ownBlock) := Lib.hid (by
    cases hb : vd.ownBlock with
    | none => exact .inl rfl
    | some k => exact .inr (Ne.symm (NDF.out k hb)))
  have KFD : Hid (vf.ownBlock = none ∨ vf.ownBlock ≠ vd.ownBlock) := Lib.hid (by
    cases hb : vf.ownBlock with
    | none => exact .inl rfl
    | some k => exact .inr fun e => NDF.out k e.symm hb)
  have MK : Hid (∀ W, (Mix.Ex w0 W ∧ W.heap[pb]? = some (.cells #[vb] 68 (0, 0)) ∧ W.heap[pd]? = some (.cells #[vd] 43 (0, 0)) ∧ W.heap[pf]? = some (.cells #[vf] 79 (0, 0)) ∧ W.heap[B5]? = some (.cells #[.int .i64 x.1.1.x0, .int .i64 x.1.1.y0] 28 (0, 0)) ∧ W.heap[B6]? = some (.cells #[.int .i64 x.1.1.x1, .int .i64 x.1.1.y1] 28 (0, 0)) ∧ w1.heap.size ≤ W.heap.size ∧ KpA base pb pd pf w W) → (W.cell? ⟨pb, 0, none⟩ = some vb ∧ W.cell? ⟨pd, 0, none⟩ = some vd ∧ W.cell? ⟨pf, 0, none⟩ = some vf ∧ W.cell? ⟨B5, 0, none⟩ = some (.int .i64 x.1.1.x0) ∧ W.cell? ⟨B5, 1, none⟩ = some (.int .i64 x.1.1.y0) ∧ W.cell? ⟨B6, 0, none⟩ = some (.int .i64 x.1.1.x1) ∧ W.cell? ⟨B6, 1, none⟩ = some (.int .i64 x.1.1.y1))) := Lib.hid (by
    rintro W ⟨_, h1, h2, h2', h3, h4, _⟩
    exact ⟨by rw [cellOf h1]; rfl, by rw [cellOf h2]; rfl, by rw [cellOf h2']; rfl, by rw [cellOf h3]; rfl, by rw [cellOf h3]; rfl, by rw [cellOf h4]; rfl, by rw [cellOf h4]; rfl⟩)
  have HVB := Lib.hid hvb
  have HVD := Lib.hid hvd
  have HVF := Lib.hid hvf
  have HN5 := Lib.hid n5
  have HN6 := Lib.hid n6
  have HX1 := Lib.hid hx1
  have HK1 := Lib.hid hk1
  have HRB := Lib.hid hrb
  have HRD := Lib.hid hrd
  have HRF := Lib.hid hrf
  clear hvb hvd hvf n5 n6 hx1 hk1 hrb hrd hrf
  go_upto_region 3 with (fail)
  clear c1 c2 e0
  have ok1 : (Mix.Ex w0 (w1.drewN 1) ∧ (w1.drewN 1).heap[pb]? = some (.cells #[vb] 68 (0, 0)) ∧ (w1.drewN 1).heap[pd]? = some (.cells #[vd] 43 (0, 0)) ∧ (w1.drewN 1).heap[pf]? = some (.cells #[vf] 79 (0, 0)) ∧ (w1.drewN 1).heap[B5]? = some (.cells #[.int .i64 x.1.1.x0, .int .i64 x.1.1.y0] 28 (0, 0)) ∧ (w1.drewN 1).heap[B6]? = some (.cells #[.int .i64 x.1.1.x1, .int .i64 x.1.1.y1] 28 (0, 0)) ∧ w1.heap.size ≤ (w1.drewN 1).heap.size ∧ KpA base pb pd pf w (w1.drewN 1)) := ⟨HX1.out.drewN 1, HVB.out, HVD.out, HVF.out, HN5.out, HN6.out, Nat.le_refl _, HK1.out.ex ((Mix.Ex.refl w1).drewN 1)⟩
  have hrb := HRB.out.ex ((Mix.Ex.refl w1).drewN 1)
  have hrd := HRD.out.ex ((Mix.Ex.refl w1).drewN 1)
  have hrf := HRF.out.ex ((Mix.Ex.refl w1).drewN 1)
  have hsz : (w1.drewN 1).heap.size = w1.heap.size := rfl
  clear HVB HVD HVF HN5 HN6 HX1 HK1 HRB HRD HRF
  refine wp_region_K (fun W => W.cell? ⟨pb, 0, none⟩ = some vb ∧ W.cell? ⟨pd, 0, none⟩ = some vd ∧ W.cell? ⟨pf, 0, none⟩ = some vf ∧ W.cell? ⟨B5, 0, none⟩ = some (.int .i64 x.1.1.x0) ∧ W.cell? ⟨B5, 1, none⟩ = some (.int .i64 x.1.1.y0) ∧ W.cell? ⟨B6, 0, none⟩ = some (.int .i64 x.1.1.x1) ∧ W.cell? ⟨B6, 1, none⟩ = some (.int .i64 x.1.1.y1)) 14 (by kernel_rfl) ?_
  change wpAnyK _ _ _ _ _ 17 (Array.replicate 17 false) _ _
  have HC := MK.out _ ok1
  (refine wpAnyK_take (i := 0) (oi := ?_) (v := ?_) ?_ ?_ ?_ ?_ ?_ ?_ ?_ ?_ ?_; rotate_left 2; (focus (simp only [List.getElem?_toArray, List.getElem?_cons_zero, List.getElem?_cons_succ]; rfl)); (focus kernel_rfl); (focus kernel_rfl); (focus kernel_rfl); (focus kernel_rfl); (focus exact fun _ _ _ h => h); (focus (refine Or.inl ⟨by rfl, ?_⟩; intro W hW; (try dsimp only at hW); go_simp; try with_reducible rfl)); (focus exact HC); (try simp only [Act.put, List.setIfInBounds_toArray, List.set_cons_zero, List.set_cons_succ]))
  (refine wpAnyK_take (i := 1) (oi := ?_) (v := ?_) ?_ ?_ ?_ ?_ ?_ ?_ ?_ ?_ ?_; rotate_left 2; (focus (simp only [List.getElem?_toArray, List.getElem?_cons_zero, List.getElem?_cons_succ]; rfl)); (focus kernel_rfl); (focus kernel_rfl); (focus kernel_rfl); (focus kernel_rfl); (focus exact fun _ _ _ h => h); (focus (refine Or.inl ⟨by rfl, ?_⟩; intro W hW; (try dsimp only at hW); go_simp; try with_reducible rfl)); (focus exact HC); (try simp only [Act.put, List.setIfInBounds_toArray, List.set_cons_zero, List.set_cons_succ]))
  (refine wpAnyK_take (i := 2) (oi := ?_) (v := ?_) ?_ ?_ ?_ ?_ ?_ ?_ ?_ ?_ ?_; rotate_left 2; (focus (simp only [List.getElem?_toArray, List.getElem?_cons_zero, List.getElem?_cons_succ]; rfl)); (focus kernel_rfl); (focus kernel_rfl); (focus kernel_rfl); (focus kernel_rfl); (focus exact fun _ _ _ h => h); (focus (refine Or.inl ⟨by rfl, ?_⟩; intro W hW; (try dsimp only at hW); go_simp; try with_reducible rfl)); (focus exact HC); (try simp only [Act.put, List.setIfInBounds_toArray, List.set_cons_zero, List.set_cons_succ]))
  (refine wpAnyK_take (i := 3) (oi := ?_) (v := ?_) ?_ ?_ ?_ ?_ ?_ ?_ ?_ ?_ ?_; rotate_left 2; (focus (simp only [List.getElem?_toArray, List.getElem?_cons_zero, List.getElem?_cons_succ]; rfl)); (focus kernel_rfl); (focus kernel_rfl); (focus kernel_rfl); (focus kernel_rfl); (focus exact fun _ _ _ h => h); (focus (refine Or.inl ⟨by rfl, ?_⟩; intro W hW; (try dsimp only at hW); go_simp; try with_reducible rfl)); (focus exact HC); (try simp only [Act.put, List.setIfInBounds_toArray, List.set_cons_zero, List.set_cons_succ]))
  clear HC
  have OK1 := Lib.hid ok1
  clear ok1
  generalize w1.drewN 1 = w2 at OK1 hrb hrd hrf hsz ⊢
  have HRB := Lib.hid hrb
  have HRD := Lib.hid hrd
  have HRF := Lib.hid hrf
  clear hrb hrd hrf
  have ALC : Hid (∀ W W', Mix.Ex W W' → (Mix.Ex w0 W ∧ W.heap[pb]? = some (.cells #[vb] 68 (0, 0)) ∧ W.heap[pd]? = some (.cells #[vd] 43 (0, 0)) ∧ W.heap[pf]? = some (.cells #[vf] 79 (0, 0)) ∧ W.heap[B5]? = some (.cells #[.int .i64 x.1.1.x0, .int .i64 x.1.1.y0] 28 (0, 0)) ∧ W.heap[B6]? = some (.cells #[.int .i64 x.1.1.x1, .int .i64 x.1.1.y1] 28 (0, 0)) ∧ w1.heap.size ≤ W.heap.size ∧ KpA base pb pd pf w W) → (Mix.Ex w0 W' ∧ W'.heap[pb]? = some (.cells #[vb] 68 (0, 0)) ∧ W'.heap[pd]? = some (.cells #[vd] 43 (0, 0)) ∧ W'.heap[pf]? = some (.cells #[vf] 79 (0, 0)) ∧ W'.heap[B5]? = some (.cells #[.int .i64 x.1.1.x0, .int .i64 x.1.1.y0] 28 (0, 0)) ∧ W'.heap[B6]? = some (.cells #[.int .i64 x.1.1.x1, .int .i64 x.1.1.y1] 28 (0, 0)) ∧ w1.heap.size ≤ W'.heap.size ∧ KpA base pb pd pf w W')) :=
    Lib.hid fun W W' h ⟨a, b, c, c', d, e, f, k⟩ => ⟨a.trans h, h.obj b, h.obj c, h.obj c', h.obj d, h.obj e, Nat.le_trans f h.below.size, k.ex h⟩
  have GRW : Hid (∀ (W W' : World) (row : Option Nat), W.grownBy W' row → (∀ k, row = some k → base ≤ k ∧ k < B5) → KpA base pb pd pf w W' → (Mix.Ex w0 W ∧ W.heap[pb]? = some (.cells #[vb] 68 (0, 0)) ∧ W.heap[pd]? = some (.cells #[vd] 43 (0, 0)) ∧ W.heap[pf]? = some (.cells #[vf] 79 (0, 0)) ∧ W.heap[B5]? = some (.cells #[.int .i64 x.1.1.x0, .int .i64 x.1.1.y0] 28 (0, 0)) ∧ W.heap[B6]? = some (.cells #[.int .i64 x.1.1.x1, .int .i64 x.1.1.y1] 28 (0, 0)) ∧ w1.heap.size ≤ W.heap.size ∧ KpA base pb pd pf w W) → (Mix.Ex w0 W' ∧ W'.heap[pb]? = some (.cells #[vb] 68 (0, 0)) ∧ W'.heap[pd]? = some (.cells #[vd] 43 (0, 0)) ∧ W'.heap[pf]? = some (.cells #[vf] 79 (0, 0)) ∧ W'.heap[B5]? = some (.cells #[.int .i64 x.1.1.x0, .int .i64 x.1.1.y0] 28 (0, 0)) ∧ W'.heap[B6]? = some (.cells #[.int .i64 x.1.1.x1, .int .i64 x.1.1.y1] 28 (0, 0)) ∧ w1.heap.size ≤ W'.heap.size ∧ KpA base pb pd pf w W')) :=
    Lib.hid fun W W' row h hr hk ⟨a, b, c, c', d, e, f, _⟩ => ⟨a.grown h (fun k hk => by have := hr k hk; omega), grown_keep h b (fun e => by have := hr _ e; omega), grown_keep h c (fun e => by have := hr _ e; omega), grown_keep h c' (fun e => by have := hr _ e; omega), grown_keep h d (fun e => by have := hr _ e; omega), grown_keep h e (fun e => by have := hr _ e; omega), Nat.le_trans f h.size, hk⟩
  refine wpAnyK_rgE (us := [4, 5, 6, 7, 8, 9, 10, 11, 12, 13])
    (fun i W => match i with
      | 5 => W.Row base 71 4 bO vb O
      | 9 => W.Row base 3 1 dO vd O
      | 13 => W.Row base 48 1 fO vf O
      | _ => True)
    (fun i v W => match i with
      | 4 => ∃ G c, v = .slice (some ⟨G, 0, none⟩) 1 c ∧ W.heap[G]? = some (.cells (bO x).toArray 71 (0, 0)) ∧ B5 ≤ G
      | 5 => ∃ g cap, v = .slice (some ⟨g, 0, none⟩) (O.length + 1) cap ∧ W.Row base 71 4 bO (.slice (some ⟨g, 0, none⟩) (O.length + 1) cap) (O ++ [x]) ∧ (vb.ownBlock = some g ∨ B5 ≤ g)
      | 6 => v = vd
      | 7 => v = .int .i64 x.1.2
      | 8 => ∃ G c, v = .slice (some ⟨G, 0, none⟩) 1 c ∧ W.heap[G]? = some (.cells (dO x).toArray 3 (0, 0)) ∧ B5 ≤ G
      | 9 => ∃ g cap, v = .slice (some ⟨g, 0, none⟩) (O.length + 1) cap ∧ W.Row base 3 1 dO (.slice (some ⟨g, 0, none⟩) (O.length + 1) cap) (O ++ [x]) ∧ (vd.ownBlock = some g ∨ B5 ≤ g)
      | 10 => v = vf
      | 11 => v = .float .f64 (floatOfInt .f64 (x.2 : Int))
      | 12 => ∃ G c, v = .slice (some ⟨G, 0, none⟩) 1 c ∧ W.heap[G]? = some (.cells (fO x).toArray 48 (0, 0)) ∧ B5 ≤ G
      | 13 => ∃ g cap, v = .slice (some ⟨g, 0, none⟩) (O.length + 1) cap ∧ W.Row base 48 1 fO (.slice (some ⟨g, 0, none⟩) (O.length + 1) cap) (O ++ [x]) ∧ (vf.ownBlock = some g ∨ B5 ≤ g)
      | _ => True)
    (fun i w w' => match i with
      | 5 => w.grownBy w' vb.ownBlock
      | 9 => w.grownBy w' vd.ownBlock
      | 13 => w.grownBy w' vf.ownBlock
      | _ => Mix.Ex w w')
    (fun W => (Mix.Ex w0 W ∧ W.heap[pb]? = some (.cells #[vb] 68 (0, 0)) ∧ W.heap[pd]? = some (.cells #[vd] 43 (0, 0)) ∧ W.heap[pf]? = some (.cells #[vf] 79 (0, 0)) ∧ W.heap[B5]? = some (.cells #[.int .i64 x.1.1.x0, .int .i64 x.1.1.y0] 28 (0, 0)) ∧ W.heap[B6]? = some (.cells #[.int .i64 x.1.1.x1, .int .i64 x.1.1.y1] 28 (0, 0)) ∧ w1.heap.size ≤ W.heap.size ∧ KpA base pb pd pf w W))
    (by kernel_rfl) 3 MK.out OK1.out ?_ ?_ ?_ ?_ ?_
  · intro i hi
    simp only [List.mem_cons, List.not_mem_nil, or_false] at hi
    rcases hi with rfl | rfl | rfl | rfl | rfl | rfl | rfl | rfl | rfl | rfl
    · trivial
    · exact HRB.out
    · trivial
    · trivial
    · trivial
    · exact HRD.out
    · trivial
    · trivial
    · trivial
    · exact HRF.out
  · intro i hi j hj hij W W' hb hg
    simp only [List.mem_cons, List.not_mem_nil, or_false] at hi hj
    rcases hi with rfl | rfl | rfl | rfl | rfl | rfl | rfl | rfl | rfl | rfl <;> first
      | trivial
      | (rcases hj with rfl | rfl | rfl | rfl | rfl | rfl | rfl | rfl | rfl | rfl <;> first
        | exact absurd rfl hij
        | exact World.Row.ex hb hg
        | exact World.Row.kept hb hg KBD.out
        | exact World.Row.kept hb hg KDB.out
        | exact World.Row.kept hb hg KBF.out
        | exact World.Row.kept hb hg KFB.out
        | exact World.Row.kept hb hg KDF.out
        | exact World.Row.kept hb hg KFD.out)
  · intro i hi j hj hij v W W' hv hg
    simp only [List.mem_cons, List.not_mem_nil, or_false] at hi hj
    rcases hi with rfl | rfl | rfl | rfl | rfl | rfl | rfl | rfl | rfl | rfl
    · obtain ⟨G, c, h1, h2, h3⟩ := hv
      refine ⟨G, c, h1, ?_, h3⟩
      rcases hj with rfl | rfl | rfl | rfl | rfl | rfl | rfl | rfl | rfl | rfl
      · exact absurd rfl hij
      · exact grown_keep hg h2 (fun e => by have := LBW.out _ e; omega)
      · exact Mix.Ex.obj hg h2
      · exact Mix.Ex.obj hg h2
      · exact Mix.Ex.obj hg h2
      · exact grown_keep hg h2 (fun e => by have := LDW.out _ e; omega)
      · exact Mix.Ex.obj hg h2
      · exact Mix.Ex.obj hg h2
      · exact Mix.Ex.obj hg h2
      · exact grown_keep hg h2 (fun e => by have := LFW.out _ e; omega)
    · obtain ⟨G, c, h1, h2, h3⟩ := hv
      refine ⟨G, c, h1, ?_, h3⟩
      rcases hj with rfl | rfl | rfl | rfl | rfl | rfl | rfl | rfl | rfl | rfl
      · exact h2.ex hg
      · exact absurd rfl hij
      · exact h2.ex hg
      · exact h2.ex hg
      · exact h2.ex hg
      · refine h2.kept hg (.inr fun e => ?_)
        simp only [Value.ownBlock] at e
        rcases h3 with h3 | h3
        · exact NBD.out _ h3 e.symm
        · have := LDW.out _ e.symm; omega
      · exact h2.ex hg
      · exact h2.ex hg
      · exact h2.ex hg
      · refine h2.kept hg (.inr fun e => ?_)
        simp only [Value.ownBlock] at e
        rcases h3 with h3 | h3
        · exact NBF.out _ h3 e.symm
        · have := LFW.out _ e.symm; omega
    · exact hv
    · exact hv
    · obtain ⟨G, c, h1, h2, h3⟩ := hv
      refine ⟨G, c, h1, ?_, h3⟩
      rcases hj with rfl | rfl | rfl | rfl | rfl | rfl | rfl | rfl | rfl | rfl
      · exact Mix.Ex.obj hg h2
      · exact grown_keep hg h2 (fun e => by have := LBW.out _ e; omega)
      · exact Mix.Ex.obj hg h2
      · exact Mix.Ex.obj hg h2
      · exact absurd rfl hij
      · exact grown_keep hg h2 (fun e => by have := LDW.out _ e; omega)
      · exact Mix.Ex.obj hg h2
      · exact Mix.Ex.obj hg h2
      · exact Mix.Ex.obj hg h2
      · exact grown_keep hg h2 (fun e => by have := LFW.out _ e; omega)
    · obtain ⟨G, c, h1, h2, h3⟩ := hv
      refine ⟨G, c, h1, ?_, h3⟩
      rcases hj with rfl | rfl | rfl | rfl | rfl | rfl | rfl | rfl | rfl | rfl
      · exact h2.ex hg
      · refine h2.kept hg (.inr fun e => ?_)
        simp only [Value.ownBlock] at e
        rcases h3 with h3 | h3
        · exact NBD.out _ e.symm h3
        · have := LBW.out _ e.symm; omega
      · exact h2.ex hg
      · exact h2.ex hg
      · exact h2.ex hg
      · exact absurd rfl hij
      · exact h2.ex hg
      · exact h2.ex hg
      · exact h2.ex hg
      · refine h2.kept hg (.inr fun e => ?_)
        simp only [Value.ownBlock] at e
        rcases h3 with h3 | h3
        · exact NDF.out _ h3 e.symm
        · have := LFW.out _ e.symm; omega
    · exact hv
    · exact hv
    · obtain ⟨G, c, h1, h2, h3⟩ := hv
      refine ⟨G, c, h1, ?_, h3⟩
      rcases hj with rfl | rfl | rfl | rfl | rfl | rfl | rfl | rfl | rfl | rfl
      · exact Mix.Ex.obj hg h2
      · exact grown_keep hg h2 (fun e => by have := LBW.out _ e; omega)
      · exact Mix.Ex.obj hg h2
      · exact Mix.Ex.obj hg h2
      · exact Mix.Ex.obj hg h2
      · exact grown_keep hg h2 (fun e => by have := LDW.out _ e; omega)
      · exact Mix.Ex.obj hg h2
      · exact Mix.Ex.obj hg h2
      · exact absurd rfl hij
      · exact grown_keep hg h2 (fun e => by have := LFW.out _ e; omega)
    · obtain ⟨G, c, h1, h2, h3⟩ := hv
      refine ⟨G, c, h1, ?_, h3⟩
      rcases hj with rfl | rfl | rfl | rfl | rfl | rfl | rfl | rfl | rfl | rfl
      · exact h2.ex hg
      · refine h2.kept hg (.inr fun e => ?_)
        simp only [Value.ownBlock] at e
        rcases h3 with h3 | h3
        · exact NBF.out _ e.symm h3
        · have := LBW.out _ e.symm; omega
      · exact h2.ex hg
      · exact h2.ex hg
      · exact h2.ex hg
      · refine h2.kept hg (.inr fun e => ?_)
        simp only [Value.ownBlock] at e
        rcases h3 with h3 | h3
        · exact NDF.out _ e.symm h3
        · have := LDW.out _ e.symm; omega
      · exact h2.ex hg
      · exact h2.ex hg
      · exact h2.ex hg
      · exact absurd rfl hij
  · intro i hi
    simp only [List.mem_cons, List.not_mem_nil, or_false] at hi
    rcases hi with rfl | rfl | rfl | rfl | rfl | rfl | rfl | rfl | rfl | rfl
    · intro o ho y W hI hb hd K hK
      simp only [List.getElem?_toArray, List.getElem?_cons_zero, List.getElem?_cons_succ, Option.some.injEq] at ho
      subst ho
      simp only [putU, dstOf, List.getElem?_toArray, List.getElem?_cons_zero, List.getElem?_cons_succ, Option.bind_some, Act.put, List.setIfInBounds_toArray, List.set_cons_zero, List.set_cons_succ] at hK ⊢
      clear hd
      have hlw : w1.heap.size ≤ W.heap.size := hI.2.2.2.2.2.2.1
      have HI := Lib.hid hI
      clear hI hb
      go_simp
      exact hK _ _ (ALC.out _ _ ((Mix.Ex.refl _).alloc _) HI.out) ((Mix.Ex.refl _).alloc _) ⟨W.heap.size, _, rfl, heap_alloc_new _ _, by omega⟩
    · intro o ho y W hI hb hd K hK
      simp only [List.getElem?_toArray, List.getElem?_cons_zero, List.getElem?_cons_succ, Option.some.injEq] at ho
      subst ho
      simp only [putU, dstOf, List.getElem?_toArray, List.getElem?_cons_zero, List.getElem?_cons_succ, Option.bind_some, Act.put, List.setIfInBounds_toArray, List.set_cons_zero, List.set_cons_succ] at hK ⊢
      have hd4 := hd ⟨4, .data⟩ (by simp) rfl rfl
      obtain ⟨G, c, h1, h2, h3⟩ := hd4
      rw [h1] at hK ⊢
      clear hd h1
      have hlw : w1.heap.size ≤ W.heap.size := hI.2.2.2.2.2.2.1
      refine wp_append_row (.tmp 17) (.tmp 21) 68 rfl base 71 i0 _ 4 32 Try.underlying68 hi0 hz0 hz1 hz2 rfl (by omega) bO vb O x rfl hb ⟨G, 0, none⟩ c rfl (news_of_cells h2) (bO_one x) (by unfold maxLen; omega) (by omega) (by omega) ?_
      intro g cap w' hr hg ho hlt
      exact hK _ _ (GRW.out _ _ _ hg LBW.out (hI.2.2.2.2.2.2.2.grown hb (by decide) hg) hI) hg ⟨g, cap, rfl, hr, ho.imp id fun e => by omega⟩
    · intro o ho y W hI hb hd K hK
      simp only [List.getElem?_toArray, List.getElem?_cons_zero, List.getElem?_cons_succ, Option.some.injEq] at ho
      subst ho
      simp only [putU, dstOf, List.getElem?_toArray, List.getElem?_cons_zero, List.getElem?_cons_succ, Option.bind_some, Act.put, List.setIfInBounds_toArray, List.set_cons_zero, List.set_cons_succ] at hK ⊢
      clear hd
      have hcd := (MK.out _ hI).2.1
      have HI := Lib.hid hI
      clear hI hb
      go_simp
      exact hK _ _ HI.out (Mix.Ex.refl _) rfl
    · intro o ho y W hI hb hd K hK
      simp only [List.getElem?_toArray, List.getElem?_cons_zero, List.getElem?_cons_succ, Option.some.injEq] at ho
      subst ho
      simp only [putU, dstOf, List.getElem?_toArray, List.getElem?_cons_zero, List.getElem?_cons_succ, Option.bind_some, Act.put, List.setIfInBounds_toArray, List.set_cons_zero, List.set_cons_succ] at hK ⊢
      clear hd
      have HI := Lib.hid hI
      clear hI hb
      go_simp
      exact hK _ _ HI.out (Mix.Ex.refl _) rfl
    · intro o ho y W hI hb hd K hK
      simp only [List.getElem?_toArray, List.getElem?_cons_zero, List.getElem?_cons_succ, Option.some.injEq] at ho
      subst ho
      simp only [putU, dstOf, List.getElem?_toArray, List.getElem?_cons_zero, List.getElem?_cons_succ, Option.bind_some, Act.put, List.setIfInBounds_toArray, List.set_cons_zero, List.set_cons_succ] at hK ⊢
      have h7 := hd ⟨7, .data⟩ (by simp) rfl rfl
      dsimp only at h7
      rw [h7] at hK ⊢
      clear h7
      clear hd
      have hlw : w1.heap.size ≤ W.heap.size := hI.2.2.2.2.2.2.1
      have HI := Lib.hid hI
      clear hI hb
      go_simp
      exact hK _ _ (ALC.out _ _ ((Mix.Ex.refl _).alloc _) HI.out) ((Mix.Ex.refl _).alloc _) ⟨W.heap.size, _, rfl, heap_alloc_new _ _, by omega⟩
    · intro o ho y W hI hb hd K hK
      simp only [List.getElem?_toArray, List.getElem?_cons_zero, List.getElem?_cons_succ, Option.some.injEq] at ho
      subst ho
      simp only [putU, dstOf, List.getElem?_toArray, List.getElem?_cons_zero, List.getElem?_cons_succ, Option.bind_some, Act.put, List.setIfInBounds_toArray, List.set_cons_zero, List.set_cons_succ] at hK ⊢
      have hd4 := hd ⟨8, .data⟩ (by simp) rfl rfl
      obtain ⟨G, c, h1, h2, h3⟩ := hd4
      have h6 := hd ⟨6, .data⟩ (by simp) rfl rfl
      dsimp only at h6
      rw [h1, h6] at hK ⊢
      clear hd h1 h6
      have hlw : w1.heap.size ≤ W.heap.size := hI.2.2.2.2.2.2.1
      refine wp_append_row (.tmp 23) (.tmp 25) 43 rfl base 3 j0 _ 1 8 Try.underlying43 hj0 hy0 hy1 hy2 rfl (by omega) dO vd O x rfl hb ⟨G, 0, none⟩ c rfl (news_of_cells h2) (dO_one x) (by unfold maxLen; omega) (by omega) (by omega) ?_
      intro g cap w' hr hg ho hlt
      exact hK _ _ (GRW.out _ _ _ hg LDW.out (hI.2.2.2.2.2.2.2.grown hb (by decide) hg) hI) hg ⟨g, cap, rfl, hr, ho.imp id fun e => by omega⟩
    · intro o ho y W hI hb hd K hK
      simp only [List.getElem?_toArray, List.getElem?_cons_zero, List.getElem?_cons_succ, Option.some.injEq] at ho
      subst ho
      simp only [putU, dstOf, List.getElem?_toArray, List.getElem?_cons_zero, List.getElem?_cons_succ, Option.bind_some, Act.put, List.setIfInBounds_toArray, List.set_cons_zero, List.set_cons_succ] at hK ⊢
      clear hd
      have hcd := (MK.out _ hI).2.2.1
      have HI := Lib.hid hI
      clear hI hb
      go_simp
      exact hK _ _ HI.out (Mix.Ex.refl _) rfl
    · intro o ho y W hI hb hd K hK
      simp only [List.getElem?_toArray, List.getElem?_cons_zero, List.getElem?_cons_succ, Option.some.injEq] at ho
      subst ho
      simp only [putU, dstOf, List.getElem?_toArray, List.getElem?_cons_zero, List.getElem?_cons_succ, Option.bind_some, Act.put, List.setIfInBounds_toArray, List.set_cons_zero, List.set_cons_succ] at hK ⊢
      clear hd
      have HI := Lib.hid hI
      clear hI hb
      go_simp
      exact hK _ _ HI.out (Mix.Ex.refl _) rfl
    · intro o ho y W hI hb hd K hK
      simp only [List.getElem?_toArray, List.getElem?_cons_zero, List.getElem?_cons_succ, Option.some.injEq] at ho
      subst ho
      simp only [putU, dstOf, List.getElem?_toArray, List.getElem?_cons_zero, List.getElem?_cons_succ, Option.bind_some, Act.put, List.setIfInBounds_toArray, List.set_cons_zero, List.set_cons_succ] at hK ⊢
      have h7 := hd ⟨11, .data⟩ (by simp) rfl rfl
      dsimp only at h7
      rw [h7] at hK ⊢
      clear h7
      clear hd
      have hlw : w1.heap.size ≤ W.heap.size := hI.2.2.2.2.2.2.1
      have HI := Lib.hid hI
      clear hI hb
      go_simp
      exact hK _ _ (ALC.out _ _ ((Mix.Ex.refl _).alloc _) HI.out) ((Mix.Ex.refl _).alloc _) ⟨W.heap.size, _, rfl, heap_alloc_new _ _, by omega⟩
    · intro o ho y W hI hb hd K hK
      simp only [List.getElem?_toArray, List.getElem?_cons_zero, List.getElem?_cons_succ, Option.some.injEq] at ho
      subst ho
      simp only [putU, dstOf, List.getElem?_toArray, List.getElem?_cons_zero, List.getElem?_cons_succ, Option.bind_some, Act.put, List.setIfInBounds_toArray, List.set_cons_zero, List.set_cons_succ] at hK ⊢
      have hd4 := hd ⟨12, .data⟩ (by simp) rfl rfl
      obtain ⟨G, c, h1, h2, h3⟩ := hd4
      have h6 := hd ⟨10, .data⟩ (by simp) rfl rfl
      dsimp only at h6
      rw [h1, h6] at hK ⊢
      clear hd h1 h6
      have hlw : w1.heap.size ≤ W.heap.size := hI.2.2.2.2.2.2.1
      refine wp_append_row (.tmp 27) (.tmp 29) 79 rfl base 48 k0 _ 1 8 Try.underlying79 hk0 hw0 hw1 hw2 rfl (by omega) fO vf O x rfl hb ⟨G, 0, none⟩ c rfl (news_of_cells h2) (fO_one x) (by unfold maxLen; omega) (by omega) (by omega) ?_
      intro g cap w' hr hg ho hlt
      exact hK _ _ (GRW.out _ _ _ hg LFW.out (hI.2.2.2.2.2.2.2.grown hb (by decide) hg) hI) hg ⟨g, cap, rfl, hr, ho.imp id fun e => by omega⟩
  · intro y W hI hA
    obtain ⟨gb, cb, e5, r5, o5⟩ := hA 5 (by simp)
    obtain ⟨gd, cd, e9, r9, o9⟩ := hA 9 (by simp)
    obtain ⟨gf, cf, e13, r13, o13⟩ := hA 13 (by simp)
    clear hA
    simp only [putU, dstOf, List.getElem?_toArray, List.getElem?_cons_zero, List.getElem?_cons_succ, Option.bind_some, Act.put, List.setIfInBounds_toArray, List.set_cons_zero, List.set_cons_succ]
    rw [e5, e9, e13]
    generalize y 4 = y4
    generalize y 8 = y8
    generalize y 6 = y6
    generalize y 7 = y7
    generalize y 10 = y10
    generalize y 11 = y11
    generalize y 12 = y12
    rw [hm] at r5 r9 r13 ⊢
    clear e5 e9 e13 y
    obtain ⟨a1, a2, a3, a4, -, -, a7, a8⟩ := hI
    have hgb := (r5.lt gb rfl)
    have hgd := (r9.lt gd rfl)
    have hgf := (r13.lt gf rfl)
    have s1 : W.cell? ⟨pb, 0, none⟩ = some vb := by rw [cellOf a2]; rfl
    have s2 : W.frozen? ⟨pb, 0, none⟩ = false := frzOf a2 0
    have tpb := setCell_obj a2 0 (.slice (some ⟨gb, 0, none⟩) (m + 1) cb)
    simp only [List.setIfInBounds_toArray, List.set_cons_zero] at tpb
    have tpd : (W.setCell ⟨pb, 0, none⟩ (.slice (some ⟨gb, 0, none⟩) (m + 1) cb)).heap[pd]? = _ := (setCell_ne 0 (Ne.symm n1) _ none).trans a3
    have tpf : (W.setCell ⟨pb, 0, none⟩ (.slice (some ⟨gb, 0, none⟩) (m + 1) cb)).heap[pf]? = _ := (setCell_ne 0 (Ne.symm n2) _ none).trans a4
    have r5 := r5.of_block (w' := (W.setCell ⟨pb, 0, none⟩ (.slice (some ⟨gb, 0, none⟩) (m + 1) cb))) (fun k hk => by simp only [Value.ownBlock, Option.some.injEq] at hk; subst hk; exact setCell_ne _ (by omega) _ _)
    have r9 := r9.of_block (w' := (W.setCell ⟨pb, 0, none⟩ (.slice (some ⟨gb, 0, none⟩) (m + 1) cb))) (fun k hk => by simp only [Value.ownBlock, Option.some.injEq] at hk; subst hk; exact setCell_ne _ (by omega) _ _)
    have r13 := r13.of_block (w' := (W.setCell ⟨pb, 0, none⟩ (.slice (some ⟨gb, 0, none⟩) (m + 1) cb))) (fun k hk => by simp only [Value.ownBlock, Option.some.injEq] at hk; subst hk; exact setCell_ne _ (by omega) _ _)
    have x0 := a1.setCell (p := ⟨pb, 0, none⟩) hb0 (.slice (some ⟨gb, 0, none⟩) (m + 1) cb)
    have kp0 := a8.setCell (q := pb) (o := 0) (by omega) (by omega) (.slice (some ⟨gb, 0, none⟩) (m + 1) cb)
    have z0 : (W.setCell ⟨pb, 0, none⟩ (.slice (some ⟨gb, 0, none⟩) (m + 1) cb)).heap.size = W.heap.size := by simp [World.setCell]
    have HR1 := Lib.hid r5
    have HR2 := Lib.hid r9
    have HR3 := Lib.hid r13
    have HTB := Lib.hid tpb
    have HTD := Lib.hid tpd
    have HTF := Lib.hid tpf
    have HXX := Lib.hid x0
    have HKK := Lib.hid kp0
    clear r5 r9 r13 tpb tpd tpf x0 kp0 a2 a3 a4 a1 a8
    (refine wpAnyK_one (i := 14) (o := ?_) ?_ ?_ ?_ (fun K hK => ?_); rotate_left 1; (focus kernel_rfl); (focus (simp only [List.getElem?_toArray, List.getElem?_cons_zero, List.getElem?_cons_succ]; rfl)); (focus rfl))
    go_simp
    generalize (W.setCell ⟨pb, 0, none⟩ (.slice (some ⟨gb, 0, none⟩) (m + 1) cb)) = W2 at HR1 HR2 HR3 HTB HTD HTF HXX HKK z0 hK ⊢
    refine hK _ _ (fun h => absurd h (by decide +kernel)) ?_
    clear hK K s1 s2
    have r5 := HR1.out
    have r9 := HR2.out
    have r13 := HR3.out
    have m01 := HTB.out
    have m02 := HTD.out
    have m03 := HTF.out
    have xx0 := HXX.out
    have kk0 := HKK.out
    clear HR1 HR2 HR3 HTB HTD HTF HXX HKK
    have s1 : W2.cell? ⟨pd, 0, none⟩ = some vd := by rw [cellOf m02]; rfl
    have s2 : W2.frozen? ⟨pd, 0, none⟩ = false := frzOf m02 0
    have tpb : (W2.setCell ⟨pd, 0, none⟩ (.slice (some ⟨gd, 0, none⟩) (m + 1) cd)).heap[pb]? = _ := (setCell_ne 0 (n1) _ none).trans m01
    have tpd := setCell_obj m02 0 (.slice (some ⟨gd, 0, none⟩) (m + 1) cd)
    simp only [List.setIfInBounds_toArray, List.set_cons_zero] at tpd
    have tpf : (W2.setCell ⟨pd, 0, none⟩ (.slice (some ⟨gd, 0, none⟩) (m + 1) cd)).heap[pf]? = _ := (setCell_ne 0 (Ne.symm n3) _ none).trans m03
    have r5 := r5.of_block (w' := (W2.setCell ⟨pd, 0, none⟩ (.slice (some ⟨gd, 0, none⟩) (m + 1) cd))) (fun k hk => by simp only [Value.ownBlock, Option.some.injEq] at hk; subst hk; exact setCell_ne _ (by omega) _ _)
    have r9 := r9.of_block (w' := (W2.setCell ⟨pd, 0, none⟩ (.slice (some ⟨gd, 0, none⟩) (m + 1) cd))) (fun k hk => by simp only [Value.ownBlock, Option.some.injEq] at hk; subst hk; exact setCell_ne _ (by omega) _ _)
    have r13 := r13.of_block (w' := (W2.setCell ⟨pd, 0, none⟩ (.slice (some ⟨gd, 0, none⟩) (m + 1) cd))) (fun k hk => by simp only [Value.ownBlock, Option.some.injEq] at hk; subst hk; exact setCell_ne _ (by omega) _ _)
    have x1 := xx0.setCell (p := ⟨pd, 0, none⟩) hd0 (.slice (some ⟨gd, 0, none⟩) (m + 1) cd)
    have kp1 := kk0.setCell (q := pd) (o := 0) (by omega) (by omega) (.slice (some ⟨gd, 0, none⟩) (m + 1) cd)
    have z1 : (W2.setCell ⟨pd, 0, none⟩ (.slice (some ⟨gd, 0, none⟩) (m + 1) cd)).heap.size = W2.heap.size := by simp [World.setCell]
    have HR1 := Lib.hid r5
    have HR2 := Lib.hid r9
    have HR3 := Lib.hid r13
    have HTB := Lib.hid tpb
    have HTD := Lib.hid tpd
    have HTF := Lib.hid tpf
    have HXX := Lib.hid x1
    have HKK := Lib.hid kp1
    clear r5 r9 r13 tpb tpd tpf x1 kp1 m01 m02 m03 xx0 kk0
    (refine wpAnyK_one (i := 15) (o := ?_) ?_ ?_ ?_ (fun K hK => ?_); rotate_left 1; (focus kernel_rfl); (focus (simp only [List.getElem?_toArray, List.getElem?_cons_zero, List.getElem?_cons_succ]; rfl)); (focus rfl))
    go_simp
    generalize (W2.setCell ⟨pd, 0, none⟩ (.slice (some ⟨gd, 0, none⟩) (m + 1) cd)) = W3 at HR1 HR2 HR3 HTB HTD HTF HXX HKK z1 hK ⊢
    refine hK _ _ (fun h => absurd h (by decide +kernel)) ?_
    clear hK K s1 s2
    have r5 := HR1.out
    have r9 := HR2.out
    have r13 := HR3.out
    have m11 := HTB.out
    have m12 := HTD.out
    have m13 := HTF.out
    have xx1 := HXX.out
    have kk1 := HKK.out
    clear HR1 HR2 HR3 HTB HTD HTF HXX HKK
    have s1 : W3.cell? ⟨pf, 0, none⟩ = some vf := by rw [cellOf m13]; rfl
    have s2 : W3.frozen? ⟨pf, 0, none⟩ = false := frzOf m13 0
    have tpb : (W3.setCell ⟨pf, 0, none⟩ (.slice (some ⟨gf, 0, none⟩) (m + 1) cf)).heap[pb]? = _ := (setCell_ne 0 (n2) _ none).trans m11
    have tpd : (W3.setCell ⟨pf, 0, none⟩ (.slice (some ⟨gf, 0, none⟩) (m + 1) cf)).heap[pd]? = _ := (setCell_ne 0 (n3) _ none).trans m12
    have tpf := setCell_obj m13 0 (.slice (some ⟨gf, 0, none⟩) (m + 1) cf)
    simp only [List.setIfInBounds_toArray, List.set_cons_zero] at tpf
    have r5 := r5.of_block (w' := (W3.setCell ⟨pf, 0, none⟩ (.slice (some ⟨gf, 0, none⟩) (m + 1) cf))) (fun k hk => by simp only [Value.ownBlock, Option.some.injEq] at hk; subst hk; exact setCell_ne _ (by omega) _ _)
    have r9 := r9.of_block (w' := (W3.setCell ⟨pf, 0, none⟩ (.slice (some ⟨gf, 0, none⟩) (m + 1) cf))) (fun k hk => by simp only [Value.ownBlock, Option.some.injEq] at hk; subst hk; exact setCell_ne _ (by omega) _ _)
    have r13 := r13.of_block (w' := (W3.setCell ⟨pf, 0, none⟩ (.slice (some ⟨gf, 0, none⟩) (m + 1) cf))) (fun k hk => by simp only [Value.ownBlock, Option.some.injEq] at hk; subst hk; exact setCell_ne _ (by omega) _ _)
    have x2 := xx1.setCell (p := ⟨pf, 0, none⟩) hf0 (.slice (some ⟨gf, 0, none⟩) (m + 1) cf)
    have kp2 := kk1.setCell (q := pf) (o := 0) (by omega) (by omega) (.slice (some ⟨gf, 0, none⟩) (m + 1) cf)
    have z2 : (W3.setCell ⟨pf, 0, none⟩ (.slice (some ⟨gf, 0, none⟩) (m + 1) cf)).heap.size = W3.heap.size := by simp [World.setCell]
    have HR1 := Lib.hid r5
    have HR2 := Lib.hid r9
    have HR3 := Lib.hid r13
    have HTB := Lib.hid tpb
    have HTD := Lib.hid tpd
    have HTF := Lib.hid tpf
    have HXX := Lib.hid x2
    have HKK := Lib.hid kp2
    clear r5 r9 r13 tpb tpd tpf x2 kp2 m11 m12 m13 xx1 kk1
    (refine wpAnyK_one (i := 16) (o := ?_) ?_ ?_ ?_ (fun K hK => ?_); rotate_left 1; (focus kernel_rfl); (focus (simp only [List.getElem?_toArray, List.getElem?_cons_zero, List.getElem?_cons_succ]; rfl)); (focus rfl))
    go_simp
    generalize (W3.setCell ⟨pf, 0, none⟩ (.slice (some ⟨gf, 0, none⟩) (m + 1) cf)) = W4 at HR1 HR2 HR3 HTB HTD HTF HXX HKK z2 hK ⊢
    refine hK _ _ (fun h => absurd h (by decide +kernel)) ?_
    clear hK K s1 s2
    have r5 := HR1.out
    have r9 := HR2.out
    have r13 := HR3.out
    have m21 := HTB.out
    have m22 := HTD.out
    have m23 := HTF.out
    have xx2 := HXX.out
    have kk2 := HKK.out
    clear HR1 HR2 HR3 HTB HTD HTF HXX HKK
    refine wpAnyK_done (by kernel_rfl) ?_ _
    have hfin : Coll3 W4 base pb pd pf (O ++ [x]) := ⟨n1, n2, n3, lb, ld, lf, by omega, _, _, _, m21, m22, m23, r5, r9, r13⟩
    have HF := Lib.hid hfin
    have HX := Lib.hid xx2
    have HKP := Lib.hid kk2
    clear hfin xx2 kk2 m21 m22 m23 r5 r9 r13
    go_wp2_with fail
    go_ret
    exact ⟨rfl, HF.out, HX.out, HKP.out⟩
end Go.Proofs.Ytboeldlilkeihaa
/- The closure that tells the distance. -/
namespace Go.Proofs.Ytboeldlilkeihaa
open Go.RowKit Go.Bx
theorem rectAt_ex' {w w' : World} {b o : Nat} {r : R} (h : RectAt w b o r) (hx : Mix.Ex w w') : RectAt w' b o r := by
  obtain ⟨h0, h1, h2, h3⟩ := h
  exact ⟨hx.cell h0, hx.cell h1, hx.cell h2, hx.cell h3⟩
theorem rectAt_new {w : World} {b : Nat} {r : R} {T : TypeId} (h : w.heap[b]? = some (.cells (boxV r).toArray T (0, 0))) : RectAt w b 0 r :=
  ⟨by rw [cellOf h]; rfl, by rw [cellOf h]; rfl, by rw [cellOf h]; rfl, by rw [cellOf h]; rfl⟩
set_option maxRecDepth 100000 in
set_option maxHeartbeats 1600000 in
theorem nbDist_c (w : World) (Bb : Nat) (b r : R) (hb : b.small) (hr : r.small) (d : Int) (it : Bool) (hB : w.heap[Bb]? = some (.cells (boxV b).toArray 71 (0, 0))) :
    Calls Try.prog 58 #[.agg #[.int .i64 r.x0, .int .i64 r.y0], .agg #[.int .i64 r.x1, .int .i64 r.y1], .int .i64 d, .bool it, .pointer (some ⟨Bb, 0, none⟩)] w fun e w' => e = .returned (.float .f64 (floatOfInt .f64 (dst b r : Int))) ∧ Mix.Ex w w' := by
  have hxa := ((Mix.Ex.refl w).alloc (.cells #[.int .i64 r.x0, .int .i64 r.y0] 28)).alloc (.cells #[.int .i64 r.x1, .int .i64 r.y1] 28)
  have n5 := ((Mix.Ex.refl (w.alloc (.cells #[.int .i64 r.x0, .int .i64 r.y0] 28))).alloc (.cells #[.int .i64 r.x1, .int .i64 r.y1] 28)).obj (heap_alloc_new w (.cells #[.int .i64 r.x0, .int .i64 r.y0] 28))
  have n6 := heap_alloc_new (w.alloc (.cells #[.int .i64 r.x0, .int .i64 r.y0] 28)) (.cells #[.int .i64 r.x1, .int .i64 r.y1] 28)
  rw [World.size_alloc] at n6
  have hB1 := hxa.obj hB
  go_enter Try.func58, Try.ntmps58
  go_upto_region 1 with (fail)
  change Code.wp _ _ _ _ ((w.alloc (.cells #[.int .i64 r.x0, .int .i64 r.y0] 28)).alloc (.cells #[.int .i64 r.x1, .int .i64 r.y1] 28))
  generalize ((w.alloc (.cells #[.int .i64 r.x0, .int .i64 r.y0] 28)).alloc (.cells #[.int .i64 r.x1, .int .i64 r.y1] 28)) = w1 at hxa n5 n6 hB1 ⊢
  obtain ⟨B5, hB5⟩ : ∃ B5, w.heap.size = B5 := ⟨_, rfl⟩
  obtain ⟨B6, hB6⟩ : ∃ B6, w.heap.size + 1 = B6 := ⟨_, rfl⟩
  rw [hB6] at n6 ⊢
  rw [hB5] at n5 ⊢
  have a0 := cellOf hB1 0
  have a1 := cellOf hB1 1
  have a2 := cellOf hB1 2
  have a3 := cellOf hB1 3
  have b0 := cellOf n5 0
  have b1 := cellOf n5 1
  have c0 := cellOf n6 0
  have c1 := cellOf n6 1
  simp only [boxV, List.getElem?_toArray, List.getElem?_cons_zero, List.getElem?_cons_succ] at a0 a1 a2 a3 b0 b1 c0 c1
  clear n5 n6 hB1 hB
  have hCC : ∀ W, Mix.Ex w1 W → (W.cell? ⟨Bb, 0, none⟩ = some (.int .i64 b.x0) ∧ W.cell? ⟨Bb, 1, none⟩ = some (.int .i64 b.y0) ∧ W.cell? ⟨Bb, 2, none⟩ = some (.int .i64 b.x1) ∧ W.cell? ⟨Bb, 3, none⟩ = some (.int .i64 b.y1) ∧ W.cell? ⟨B5, 0, none⟩ = some (.int .i64 r.x0) ∧ W.cell? ⟨B5, 1, none⟩ = some (.int .i64 r.y0) ∧ W.cell? ⟨B6, 0, none⟩ = some (.int .i64 r.x1) ∧ W.cell? ⟨B6, 1, none⟩ = some (.int .i64 r.y1)) :=
    fun W h => ⟨h.cell a0, h.cell a1, h.cell a2, h.cell a3, h.cell b0, h.cell b1, h.cell c0, h.cell c1⟩
  have hI1 := (Mix.Ex.refl w1).drewN 1
  have HC := hCC _ hI1
  have HXA := Lib.hid hxa
  have HCC := Lib.hid hCC
  clear hxa a0 a1 a2 a3 b0 b1 c0 c1 hCC
  refine wp_region_K (fun W => W.cell? ⟨Bb, 0, none⟩ = some (.int .i64 b.x0) ∧ W.cell? ⟨Bb, 1, none⟩ = some (.int .i64 b.y0) ∧ W.cell? ⟨Bb, 2, none⟩ = some (.int .i64 b.x1) ∧ W.cell? ⟨Bb, 3, none⟩ = some (.int .i64 b.y1) ∧ W.cell? ⟨B5, 0, none⟩ = some (.int .i64 r.x0) ∧ W.cell? ⟨B5, 1, none⟩ = some (.int .i64 r.y0) ∧ W.cell? ⟨B6, 0, none⟩ = some (.int .i64 r.x1) ∧ W.cell? ⟨B6, 1, none⟩ = some (.int .i64 r.y1)) 8 (by kernel_rfl) ?_
  change wpAnyK _ _ _ _ _ 9 (Array.replicate 9 false) _ _
  (refine wpAnyK_take (i := 0) (oi := ?_) (v := ?_) ?_ ?_ ?_ ?_ ?_ ?_ ?_ ?_ ?_; rotate_left 2; (focus (simp only [List.getElem?_toArray, List.getElem?_cons_zero, List.getElem?_cons_succ]; rfl)); (focus kernel_rfl); (focus kernel_rfl); (focus kernel_rfl); (focus kernel_rfl); (focus exact fun _ _ _ h => h); (focus (refine Or.inl ⟨by rfl, ?_⟩; intro W hW; (try dsimp only at hW); go_simp; try with_reducible rfl)); (focus exact HC); (try simp only [Act.put, List.setIfInBounds_toArray, List.set_cons_zero, List.set_cons_succ]))
  (refine wpAnyK_take (i := 2) (oi := ?_) (v := ?_) ?_ ?_ ?_ ?_ ?_ ?_ ?_ ?_ ?_; rotate_left 2; (focus (simp only [List.getElem?_toArray, List.getElem?_cons_zero, List.getElem?_cons_succ]; rfl)); (focus kernel_rfl); (focus kernel_rfl); (focus kernel_rfl); (focus kernel_rfl); (focus exact fun _ _ _ h => h); (focus (refine Or.inl ⟨by rfl, ?_⟩; intro W hW; (try dsimp only at hW); go_simp; try with_reducible rfl)); (focus exact HC); (try simp only [Act.put, List.setIfInBounds_toArray, List.set_cons_zero, List.set_cons_succ]))
  (refine wpAnyK_take (i := 3) (oi := ?_) (v := ?_) ?_ ?_ ?_ ?_ ?_ ?_ ?_ ?_ ?_; rotate_left 2; (focus (simp only [List.getElem?_toArray, List.getElem?_cons_zero, List.getElem?_cons_succ]; rfl)); (focus kernel_rfl); (focus kernel_rfl); (focus kernel_rfl); (focus kernel_rfl); (focus exact fun _ _ _ h => h); (focus (refine Or.inl ⟨by rfl, ?_⟩; intro W hW; (try dsimp only at hW); go_simp; try with_reducible rfl)); (focus exact HC); (try simp only [Act.put, List.setIfInBounds_toArray, List.set_cons_zero, List.set_cons_succ]))
  (refine wpAnyK_take (i := 4) (oi := ?_) (v := ?_) ?_ ?_ ?_ ?_ ?_ ?_ ?_ ?_ ?_; rotate_left 2; (focus (simp only [List.getElem?_toArray, List.getElem?_cons_zero, List.getElem?_cons_succ]; rfl)); (focus kernel_rfl); (focus kernel_rfl); (focus kernel_rfl); (focus kernel_rfl); (focus exact fun _ _ _ h => h); (focus (refine Or.inl ⟨by rfl, ?_⟩; intro W hW; (try dsimp only at hW); go_simp; try with_reducible rfl)); (focus exact HC); (try simp only [Act.put, List.setIfInBounds_toArray, List.set_cons_zero, List.set_cons_succ]))
  clear HC
  refine wpAnyK_rgE (us := [1, 5]) (fun _ _ => True)
    (fun i v W => match i with
      | 1 => ∃ p, v = .pointer (some ⟨p, 0, none⟩) ∧ RectAt W p 0 b
      | 5 => ∃ p, v = .pointer (some ⟨p, 0, none⟩) ∧ RectAt W p 0 r
      | _ => True)
    (fun _ => Mix.Ex) (Mix.Ex w1) (by kernel_rfl) 3 HCC.out hI1 (fun _ _ => trivial) (fun _ _ _ _ _ _ _ _ _ => trivial) ?_ ?_ ?_
  · intro i hi j hj hij v W W' hv hg
    simp only [List.mem_cons, List.not_mem_nil, or_false] at hi
    rcases hi with rfl | rfl
    · obtain ⟨p, h1, h2⟩ := hv; exact ⟨p, h1, rectAt_ex' h2 hg⟩
    · obtain ⟨p, h1, h2⟩ := hv; exact ⟨p, h1, rectAt_ex' h2 hg⟩
  · intro i hi
    simp only [List.mem_cons, List.not_mem_nil, or_false] at hi
    rcases hi with rfl | rfl
    · intro o ho v0 W hI hb' hd K hK
      simp only [List.getElem?_toArray, List.getElem?_cons_zero, List.getElem?_cons_succ, Option.some.injEq] at ho
      subst ho
      simp only [putU, dstOf, List.getElem?_toArray, List.getElem?_cons_zero, List.getElem?_cons_succ, Option.bind_some, Act.put, List.setIfInBounds_toArray, List.set_cons_zero, List.set_cons_succ] at hK ⊢
      clear hd hb'
      go_simp
      refine (boxRect_c _ b).mono ?_
      rintro e W1 ⟨p, rfl, -, h2, -, hx1⟩
      exact hK _ _ (hI.trans hx1) hx1 ⟨p, rfl, h2⟩
    · intro o ho v0 W hI hb' hd K hK
      simp only [List.getElem?_toArray, List.getElem?_cons_zero, List.getElem?_cons_succ, Option.some.injEq] at ho
      subst ho
      simp only [putU, dstOf, List.getElem?_toArray, List.getElem?_cons_zero, List.getElem?_cons_succ, Option.bind_some, Act.put, List.setIfInBounds_toArray, List.set_cons_zero, List.set_cons_succ] at hK ⊢
      clear hd hb'
      have HI := Lib.hid hI
      clear hI
      go_simp
      exact hK _ _ (HI.out.alloc _) ((Mix.Ex.refl _).alloc _) ⟨W.heap.size, rfl, rectAt_new (heap_alloc_new W (.cells (boxV r).toArray 91))⟩
  intro v0 W hI hA
  obtain ⟨p, e1, hp⟩ := hA 1 (by simp)
  obtain ⟨q, e5, hq⟩ := hA 5 (by simp)
  clear hA
  simp only [putU, dstOf, List.getElem?_toArray, List.getElem?_cons_zero, List.getElem?_cons_succ, Option.bind_some, Act.put, List.setIfInBounds_toArray, List.set_cons_zero, List.set_cons_succ]
  rw [e1, e5]
  clear e1 e5 v0
  have HI := Lib.hid hI
  clear hI
  (refine wpAnyK_one (i := 6) (o := ?_) ?_ ?_ ?_ (fun K hK => ?_); rotate_left 1; (focus kernel_rfl); (focus (simp only [List.getElem?_toArray, List.getElem?_cons_zero, List.getElem?_cons_succ]; rfl)); (focus rfl))
  go_simp
  refine (boxDist_c _ p 0 q 0 b r hp hq hb hr).mono ?_
  rintro e W2 ⟨rfl, n, rfl⟩
  have hi2 := HI.out.drewN n
  refine hK _ _ (fun _ => HCC.out _ hi2) ?_
  clear hK K
  have HI2 := Lib.hid hi2
  clear hi2 hp hq
  rw [← dst_int]
  generalize W.drewN n = W2 at HI2 ⊢
  (refine wpAnyK_one (i := 7) (o := ?_) ?_ ?_ ?_ (fun K hK => ?_); rotate_left 1; (focus kernel_rfl); (focus (simp only [List.getElem?_toArray, List.getElem?_cons_zero, List.getElem?_cons_succ]; rfl)); (focus rfl))
  go_simp
  refine hK _ _ (fun _ => HCC.out _ HI2.out) ?_
  clear hK K
  (refine wpAnyK_one (i := 8) (o := ?_) ?_ ?_ ?_ (fun K hK => ?_); rotate_left 1; (focus kernel_rfl); (focus (simp only [List.getElem?_toArray, List.getElem?_cons_zero, List.getElem?_cons_succ]; rfl)); (focus rfl))
  go_simp
  refine hK _ _ (fun h => absurd h (by decide +kernel)) ?_
  clear hK K
  refine wpAnyK_done (by kernel_rfl) ?_ _
  go_wp2_with fail
  go_ret
  exact ⟨rfl, HXA.out.trans HI2.out⟩
end Go.Proofs.Ytboeldlilkeihaa
