/- The law FnCopyApart answers true at every input, and each argument reads behind the call as it read before. No condition. -/
import Derived.Test.YtboeldlilkeihaaRows
import Derived.Test.YtboeldlilkeihaaCpL
import Derived.ProofKit
import Derived.OpenShut
import Derived.SizedLaws
set_option linter.unusedSimpArgs false
set_option linter.unusedVariables false
namespace Go.Proofs.Ytboeldlilkeihaa.fnCopyApart
open Go.ChangeShapes Go.WideShapes Go.ChangeAt Go.RowKit Go.Bx

theorem own : ownKnob Try.prog.godebug = none := by kernel_rfl
theorem laidOut : laidOutB Try.prog = true := by kernel_rfl
theorem cellsE : Try.prog.cellsOf 39 = 1 := by kernel_rfl
theorem bytesE : Try.prog.bytesOf 39 = 2 := by kernel_rfl

set_option maxRecDepth 100000 in
theorem lifted (os : Os) (started : os.Started) (H : Type) (enc : TypeId × Value → H) :
    ReturnsInHanded {} Try.checked os 12 .any (Rows.fnCopyApartSpec.pre6 enc Try.prog Try.f12 Rows.fnCopyApartRow.domain false) (Rows.fnCopyApartSpec.post enc Try.prog Try.f12 false true false false) := by
  refine returnsInHanded_of_change_sized (C := Try.checked) own started (by kernel_rfl) Try.func12
    (ChangeSpec.witness6 (enc := enc) (C := Try.checked) false ⟨#[], #[.slice none 0 0, .slice none 0 0, .slice none 0 0], []⟩ 8 (by kernel_rfl) (by kernel_rfl) (by kernel_rfl) (by kernel_rfl)) ?_
  intro W base args ds gs before hval0 hW _ hsz0 _
  have hsz : (DataW.weightsEach Try.prog (Try.f12.params.toList ++ Rows.fnCopyApartSpec.plain.varTypes Try.prog) (ds ++ gs)).all (· ≤ reachBytes) = true := hsz0
  clear hsz0
  have hval : ∀ (j : Nat) t v, Try.f12.params[j]? = some t → args[j]? = some v → Value.okWide Try.prog W .any base t v := hval0
  have hW' := hW
  obtain ⟨p, q, hA0, hV, rfl, _, _⟩ := hW
  have hA : DataW.TrodAll enc Try.prog W 0 (fun _ => true) true Try.f12.params.toList args.toList ds p := hA0
  rw [Try.params12] at hA hval hsz
  obtain ⟨v0, vs0, d0, ds0, p0, q0, hargs, rfl, rfl, h0, r0⟩ := trodAll_cons hA
  obtain ⟨v1, vs1, d1, ds1, p1, q1, rfl, rfl, rfl, h1, r1⟩ := trodAll_cons r0
  obtain ⟨v2, vs2, d2, ds2, p2, q2, rfl, rfl, rfl, h2, r2⟩ := trodAll_cons r1
  obtain ⟨rfl, rfl, rfl⟩ := trodAll_nil r2
  obtain rfl : args = #[v0, v1, v2] := by cases args; simp_all
  obtain ⟨rfl, rfl⟩ := trodVars_none hV
  obtain ⟨a0, len0, cap0, rfl⟩ := okWide_slice Try.underlying22 (hval 0 22 v0 rfl rfl)
  obtain ⟨a1, len1, cap1, rfl⟩ := okWide_slice Try.underlying22 (hval 1 22 v1 rfl rfl)
  obtain ⟨a2, len2, cap2, rfl⟩ := okWide_slice Try.underlying22 (hval 2 22 v2 rfl rfl)
  clear hA0 hval0
  simp only [List.append_nil, List.nil_append] at hW'
  have hlt := hW'.lt
  obtain ⟨zs0, hz0⟩ : ∃ zs, Ints16At W (.slice a0 len0 cap0) zs := by
    obtain ⟨fuel, hf⟩ := h0
    rcases open_ints Try.underlying22 Try.underlying39 cellsE hf with ⟨hcs, hx⟩ | ⟨a, len', cap', zs, hcs, _, hl, hm, hz, hx, hcell, hwz⟩
    · simp [Value.cells] at hcs
      obtain ⟨rfl, rfl, rfl⟩ := hcs
      exact ⟨[], Ints16At.nil _⟩
    · simp [Value.cells] at hcs
      obtain ⟨rfl, rfl, rfl⟩ := hcs
      simp only [if_true] at hz
      simp only [Prod.mk.injEq] at hx
      obtain ⟨hx1, hx2⟩ := hx
      subst hx1
      have hreach : len0 ≤ 70368744175616 := by
        have := sized_slice hsz (j := 0) (t := 22) (e := 39) rfl rfl Try.underlying22
        rw [bytesE] at this
        simp only [lits, List.length_map, List.length_take, List.length_drop, reachBytes] at this
        omega
      exact ⟨zs.take len0, Ints16At.mk' hl hz hreach hcell hwz⟩
  obtain ⟨zs1, hz1⟩ : ∃ zs, Ints16At W (.slice a1 len1 cap1) zs := by
    obtain ⟨fuel, hf⟩ := h1
    rcases open_ints Try.underlying22 Try.underlying39 cellsE hf with ⟨hcs, hx⟩ | ⟨a, len', cap', zs, hcs, _, hl, hm, hz, hx, hcell, hwz⟩
    · simp [Value.cells] at hcs
      obtain ⟨rfl, rfl, rfl⟩ := hcs
      exact ⟨[], Ints16At.nil _⟩
    · simp [Value.cells] at hcs
      obtain ⟨rfl, rfl, rfl⟩ := hcs
      simp only [if_true] at hz
      simp only [Prod.mk.injEq] at hx
      obtain ⟨hx1, hx2⟩ := hx
      subst hx1
      have hreach : len1 ≤ 70368744175616 := by
        have := sized_slice hsz (j := 1) (t := 22) (e := 39) rfl rfl Try.underlying22
        rw [bytesE] at this
        simp only [lits, List.length_map, List.length_take, List.length_drop, reachBytes] at this
        omega
      exact ⟨zs.take len1, Ints16At.mk' hl hz hreach hcell hwz⟩
  obtain ⟨zs2, hz2⟩ : ∃ zs, Ints16At W (.slice a2 len2 cap2) zs := by
    obtain ⟨fuel, hf⟩ := h2
    rcases open_ints Try.underlying22 Try.underlying39 cellsE hf with ⟨hcs, hx⟩ | ⟨a, len', cap', zs, hcs, _, hl, hm, hz, hx, hcell, hwz⟩
    · simp [Value.cells] at hcs
      obtain ⟨rfl, rfl, rfl⟩ := hcs
      exact ⟨[], Ints16At.nil _⟩
    · simp [Value.cells] at hcs
      obtain ⟨rfl, rfl, rfl⟩ := hcs
      simp only [if_true] at hz
      simp only [Prod.mk.injEq] at hx
      obtain ⟨hx1, hx2⟩ := hx
      subst hx1
      have hreach : len2 ≤ 70368744175616 := by
        have := sized_slice hsz (j := 2) (t := 22) (e := 39) rfl rfl Try.underlying22
        rw [bytesE] at this
        simp only [lits, List.length_map, List.length_take, List.length_drop, reachBytes] at this
        omega
      exact ⟨zs.take len2, Ints16At.mk' hl hz hreach hcell hwz⟩
  refine (copyApart_walk W _ _ _ _ _ _ hz0 hz1 hz2).mono fun e W' ⟨he, hg⟩ => ?_
  subst he
  exact ⟨_, rfl, _, _, _, [], _, [], hW', (trodAll_cons_mk (shut_bool Try.underlying4 _) trodAll_mk0), (trodAll_cons_mk (Below.trod laidOut (by kernel_rfl) (of_decide_eq_true (by kernel_rfl)) h0 hg.below (fun x hx => hlt x (by simp [hx]))) (trodAll_cons_mk (Below.trod laidOut (by kernel_rfl) (of_decide_eq_true (by kernel_rfl)) h1 hg.below (fun x hx => hlt x (by simp [hx]))) (trodAll_cons_mk (Below.trod laidOut (by kernel_rfl) (of_decide_eq_true (by kernel_rfl)) h2 hg.below (fun x hx => hlt x (by simp [hx]))) trodAll_mk0))), rfl, hg.below.frame _, fun h => by cases h⟩

theorem over : Rows.fnCopyApartRow.holds Try.pinned (OpenSpec.ofChange Rows.fnCopyApartSpec) :=
  OpenClaim.holds_of_wide 12 Try.f12 rfl rfl rfl rfl rfl rfl rfl ⟨rfl, rfl, rfl, rfl, rfl⟩ rfl rfl rfl rfl rfl (by kernel_rfl) Try.func12 (by kernel_rfl)
    (of_decide_eq_true (by kernel_rfl)) (by unfold Func.isWrapper; first | (rw [if_pos (by decide +kernel)]; kernel_rfl) | (rw [if_neg (by decide +kernel)]; exact ⟨rfl, rfl⟩))
    (fun os started H enc _ => lifted os started H enc)

theorem proved : Rows.FnCopyApartSaid := over
#print axioms proved
end Go.Proofs.Ytboeldlilkeihaa.fnCopyApart
