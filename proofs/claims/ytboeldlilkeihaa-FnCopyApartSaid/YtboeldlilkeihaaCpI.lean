/- A tree that is shared; Copied. -/
import Derived.Test.YtboeldlilkeihaaCpy
import Derived.Test.YtboeldlilkeihaaItm
set_option linter.unusedSimpArgs false
set_option linter.unusedVariables false
namespace Go.Proofs.Ytboeldlilkeihaa
open Go.RowKit Go.Bx
/-- A tree's own nodes, shared from now on. -/
theorem ElAt.freeze {c c' : Int} {Z Z' : Nat → Prop} {w : World} (hc : c ≠ c') (hZ : ∀ k, ¬ Z k) : ∀ {h : Nat} {v : Value} {t : El h} {s : Nat → Prop}, ElAt c Z w h v t s → (∀ b, s b → Z' b) → ElAt c' Z' w h v t (fun _ => False)
  | 0, _, _, _, k, _ => ⟨k.1, fun _ h => h⟩
  | h + 1, v, t, s, ⟨p, q, ic, X, hv, hn, hE, he, ho⟩, hs => by
    have ho : OwnedC c Z ic w s p q t.n X := ho.resolve_right fun k => hZ _ k.zp
    have hic : ic = c := ho.icc.resolve_right fun ⟨k, hk⟩ => hZ k hk
    refine ⟨p, q, ic, fun i => ((X i).1, ⟨(X i).2.v, (X i).2.t, fun _ => False⟩), hv, ⟨hn.nd, hn.ls, hn.fit, hn.pq, hn.n64⟩, hE, fun e hm => ?_, .inr ⟨by rw [hic]; exact hc, hs p ho.sp, hs q ho.sq, fun _ h => h, fun e hm b hb => ?_⟩⟩
    · obtain ⟨i, hi, rfl⟩ := mem_lst.1 hm
      exact ElAt.freeze hc hZ (he (X i) (mem_lst.2 ⟨i, hi, rfl⟩)) fun b hb => hs b (ho.sub _ (mem_lst.2 ⟨i, hi, rfl⟩) b hb).1
    · obtain ⟨i, hi, rfl⟩ := mem_lst.1 hm
      exact hb
theorem copy_c {w : World} {tr : Nat} {T : Tre} {s : Nat → Prop} (hM : TreeM 0 (fun _ => False) w tr T (.pointer none) s) :
    Calls Try.prog 46 #[.pointer (some ⟨tr, 0, none⟩)] w fun e w' => ∃ (tr2 : Nat) (cw : Value), e = .returned (.pointer (some ⟨tr2, 0, none⟩)) ∧ TreeM 1 s w' tr T cw (fun _ => False) ∧ TreeM 2 s w' tr2 T cw (fun _ => False) ∧ w.heap.size ≤ tr2 ∧ tr2 < w'.heap.size ∧ Chg (fun b => b = tr) w w' := by
  have hlt := hM.lt
  have hsl : ∀ b, s b → b < w.heap.size := fun b hb => hM.slt hb
  obtain ⟨⟨rt, hT, hR⟩, hps, hpZ, hsZ, hzl⟩ := hM
  obtain ⟨ra, rfl⟩ : ∃ ra, rt = .pointer ra := by
    cases hr : T.root with
    | none => rw [hr] at hR; exact ⟨none, hR.1⟩
    | some q => rw [hr] at hR; obtain ⟨p, hp⟩ := ElAt.ptr hR; exact ⟨_, hp⟩
  refine (copyW_c w tr T.cnt T.rect ra hT).mono ?_
  rintro e w' ⟨tr2, C, rfl, h1, h2, h3, hc⟩
  have hR' : RootAt 0 (fun _ => False) w' (.pointer ra) s T.root := hR.frame (S := fun b => b = tr) (fun _ _ h => h) hc (fun b hb h => hps (hb ▸ h))
  have hF : ∀ c' : Int, c' ≠ 0 → RootAt c' s w' (.pointer ra) (fun _ => False) T.root := fun c' hc' => by
    revert hR'
    cases T.root with
    | none => exact fun h => ⟨h.1, fun _ h => h⟩
    | some q => exact fun h => ElAt.freeze (Ne.symm hc') (fun _ h => h) h (fun b hb => hb)
  have hsl' : ∀ b, s b → b < w'.heap.size := fun b hb => Nat.lt_of_lt_of_le (hsl b hb) hc.size
  exact ⟨tr2, _, rfl, ⟨⟨_, h1, hF 1 (by decide)⟩, fun h => h, hps, fun _ h => h.elim, hsl'⟩, ⟨⟨_, h2, hF 2 (by decide)⟩, fun h => h, fun h => by have := hsl _ h; omega, fun _ h => h.elim, hsl'⟩, h3, (Array.getElem?_eq_some_iff.1 h2).1, hc⟩
set_option maxRecDepth 100000 in
set_option maxHeartbeats 1600000 in
theorem implCopied_c (w : World) (S P Q : List Stp) (hS : ∀ st ∈ S, st.ok) (hP : ∀ st ∈ P, st.ok) (hQ : ∀ st ∈ Q, st.ok) (b1 g1 c1 n1 b2 g2 c2 n2 b3 g3 c3 n3 : Nat) (hn1 : S.length = n1) (hn2 : P.length = n2) (hn3 : Q.length = n3) (hm1 : n1 ≤ 400) (hm2 : n2 ≤ 400) (hm3 : n3 ≤ 400)
    (hr1 : w.Row b1 37 11 stepV (.slice (some ⟨g1, 0, none⟩) n1 c1) S) (hr2 : w.Row b2 37 11 stepV (.slice (some ⟨g2, 0, none⟩) n2 c2) P) (hr3 : w.Row b3 37 11 stepV (.slice (some ⟨g3, 0, none⟩) n3 c3) Q)
    (hla : (itT (Bx.runT (Bx.runT tre0 S) P)).length ≤ 900000) (hlb : (itT (Bx.runT (Bx.runT tre0 S) Q)).length ≤ 900000) :
    Calls Try.prog 32 #[.slice (some ⟨g1, 0, none⟩) n1 c1, .slice (some ⟨g2, 0, none⟩) n2 c2, .slice (some ⟨g3, 0, none⟩) n3 c3] w fun e w' => ∃ (va vb : Value) (ba bb : Nat), e = .returned (.tuple #[va, vb]) ∧ w'.Row ba 35 5 itemV va (itT (Bx.runT (Bx.runT tre0 S) P)) ∧ w'.Row bb 35 5 itemV vb (itT (Bx.runT (Bx.runT tre0 S) Q)) ∧ Mix.Ex w w' := by
  have hg2 := (hr2.lt _ rfl).2
  have hg3 := (hr3.lt _ rfl).2
  have hG := grown_c w S hS (by omega) b1 g1 c1 (by rw [hn1]; exact hr1)
  rw [hn1] at hG
  have hF := fine0.run hS
  rw [hn1, Nat.zero_add] at hF
  have HR2 := Lib.hid hr2
  have HR3 := Lib.hid hr3
  have HF := Lib.hid hF
  clear hr1 hr2 hr3 hF
  generalize Bx.runT tre0 S = T at hG HF hla hlb ⊢
  go_enter Try.func32, Try.ntmps32
  go_wp2_with fail
  refine hG.mono ?_
  rintro e w2 ⟨tr, s, rfl, hM, htr, hsw, hx2⟩
  have hC := copy_c hM
  have hps := hM.ps
  have htl := hM.lt
  clear hG hM
  go_wp2_with fail
  refine hC.mono ?_
  rintro e w3 ⟨tr2, cw, rfl, hMa, hMb, htr2, htr2l, hc3⟩
  have hsz2 := hx2.below.size
  have hx3 : Mix.Ex w w3 := ((Chg.ex (S := fun _ => False) hx2).trans' hc3 (fun i hi h => by subst h; omega)).toEx (fun _ _ h => h)
  have hga := grow_c 1 s tr cw T w3 (fun _ => False) hMa n1 HF.out P hP (by omega) b2 g2 c2 (by rw [hn2]; exact HR2.out.ex hx3) (fun h => h) (by omega)
  rw [hn2] at hga
  have HMB := Lib.hid hMb
  have hpa := hMa.pZ
  have hpb := hMb.pZ
  clear hC hMa hMb hc3 hx2
  go_wp2_with fail
  refine hga.mono ?_
  rintro e w4 ⟨rfl, s1, hMa, hGa, hca⟩
  have hMb := HMB.out.frame hca (fun b hb => by rcases hb with rfl | h; exact hpa; exact h.elim) (fun b _ h => h) (fun h => by rcases h with h | h; omega; exact h)
  have hx4 : Mix.Ex w w4 := ((Chg.ex (S := fun _ => False) hx3).trans' hca (fun i hi h => by rcases h with h | h; (subst h; omega); exact h)).toEx (fun _ _ h => h)
  have hgb := grow_c 2 s tr2 cw T w4 (fun _ => False) hMb n1 HF.out Q hQ (by omega) b3 g3 c3 (by rw [hn3]; exact HR3.out.ex hx4) (fun h => h) (by omega)
  rw [hn3] at hgb
  have HMA := Lib.hid hMa
  have hs1 : ¬ s1 tr2 := fun h => by
    rcases hGa _ h with h | h
    · exact h
    · omega
  clear hga hMa hMb hGa hca HMB
  go_wp2_with fail
  refine hgb.mono ?_
  rintro e w5 ⟨rfl, s2, hMb, hGb, hcb⟩
  have hMa := HMA.out.frame hcb (fun b hb => by rcases hb with rfl | h; exact hpb; exact h.elim) (fun b hb h => by rcases hb with rfl | h'; exact hs1 h; exact h') (fun h => by rcases h with h | h; omega; exact h)
  have hx5 : Mix.Ex w w5 := ((Chg.ex (S := fun _ => False) hx4).trans' hcb (fun i hi h => by rcases h with h | h; (subst h; omega); exact h)).toEx (fun _ _ h => h)
  have hZa := zzScan_c hMa hla
  have HMB := Lib.hid hMb
  have HX5 := Lib.hid hx5
  clear hgb hMa hMb hGb hcb HMA hx3 hx4 hx5 HF HR2 HR3
  go_wp2_with fail
  refine hZa.mono ?_
  rintro e w6 ⟨vb, vd, rfl, hrb, hrd, hx6⟩
  have hMb := HMB.out.frame (S := fun _ => False) (Chg.ex hx6) (fun _ h => h.elim) (fun _ h => h.elim) (fun h => h)
  have hZb := zzScan_c hMb hlb
  obtain ⟨ob, cb, rfl, -⟩ := hrb.slice
  obtain ⟨od, cd, rfl, -⟩ := hrd.slice
  have HRB := Lib.hid hrb
  have HRD := Lib.hid hrd
  have HX6 := Lib.hid (HX5.out.trans hx6)
  clear hZa hMb HMB hrb hrd hx6
  go_wp2_with fail
  refine hZb.mono ?_
  rintro e w7 ⟨vb2, vd2, rfl, hrb2, hrd2, hx7⟩
  have hIa := implItems_c w7 _ _ _ _ _ (HRB.out.ex hx7) (HRD.out.ex hx7) hla
  have hIb := fun W (hx : Mix.Ex w7 W) => implItems_c W _ _ _ _ _ (hrb2.ex hx) (hrd2.ex hx) hlb
  obtain ⟨ob2, cb2, rfl, -⟩ := hrb2.slice
  obtain ⟨od2, cd2, rfl, -⟩ := hrd2.slice
  have HX7 := Lib.hid (HX6.out.trans hx7)
  have HIB := Lib.hid hIb
  clear hZb hrb2 hrd2 hx7 HRB HRD hIb
  go_wp2_with fail
  refine hIa.mono ?_
  rintro e w8 ⟨ga, ca, rfl, hra, hx8⟩
  have hIb := HIB.out w8 hx8
  have HRA := Lib.hid hra
  have HX8 := Lib.hid (HX7.out.trans hx8)
  clear hIa hra hx8 HIB
  go_wp2_with fail
  refine hIb.mono ?_
  rintro e w9 ⟨gb, cb9, rfl, hrb, hx9⟩
  have HRA9 := Lib.hid (HRA.out.ex hx9)
  have HRB9 := Lib.hid hrb
  have HX9 := Lib.hid (HX8.out.trans hx9)
  clear hIb hrb hx9
  go_wp2_with fail
  refine bodyPost_ret (results_tmp2 Try.results32 _ _ _) rfl ?_
  exact ⟨_, _, _, _, rfl, HRA9.out, HRB9.out, HX9.out⟩
end Go.Proofs.Ytboeldlilkeihaa
