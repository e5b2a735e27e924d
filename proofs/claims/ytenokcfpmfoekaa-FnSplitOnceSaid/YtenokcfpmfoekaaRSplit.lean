/- The law FnSplitOnce answers true at every input, and each argument reads behind the call as it read before. No condition. -/
import Derived.Test.YtenokcfpmfoekaaRows
import Derived.Test.YtenokcfpmfoekaaSplitO
import Derived.ProofKit
import Derived.OpenShut
import Derived.SizedLaws
set_option linter.unusedSimpArgs false
set_option linter.unusedVariables false
namespace Go.Proofs.Ytenokcfpmfoekaa.fnSplitOnce
open Go.ChangeShapes Go.WideShapes Go.ChangeAt Go.RowKit Go.Bx

theorem own : ownKnob Try.prog.godebug = none := by kernel_rfl
theorem laidOut : laidOutB Try.prog = true := by kernel_rfl
theorem cellsE : Try.prog.cellsOf 22 = 1 := by kernel_rfl
theorem bytesE : Try.prog.bytesOf 22 = 2 := by kernel_rfl

set_option maxRecDepth 100000 in
theorem lifted (os : Os) (started : os.Started) (H : Type) (enc : TypeId × Value → H) :
    ReturnsInHanded {} Try.checked os 12 .any (Rows.fnSplitOnceSpec.pre6 enc Try.prog Try.f12 Rows.fnSplitOnceRow.domain false) (Rows.fnSplitOnceSpec.post enc Try.prog Try.f12 false true false false) := by
  refine returnsInHanded_of_change_sized (C := Try.checked) own started (by kernel_rfl) Try.func12
    (ChangeSpec.witness6 (enc := enc) (C := Try.checked) false ⟨#[], #[.slice none 0 0], []⟩ 8 (by kernel_rfl) (by kernel_rfl) (by kernel_rfl) (by kernel_rfl)) ?_
  intro W base args ds gs before hval0 hW _ hsz0 _
  have hsz : (DataW.weightsEach Try.prog (Try.f12.params.toList ++ Rows.fnSplitOnceSpec.plain.varTypes Try.prog) (ds ++ gs)).all (· ≤ reachBytes) = true := hsz0
  clear hsz0
  have hval : ∀ (j : Nat) t v, Try.f12.params[j]? = some t → args[j]? = some v → Value.okWide Try.prog W .any base t v := hval0
  have hW' := hW
  obtain ⟨p, q, hA0, hV, rfl, _, _⟩ := hW
  have hA : DataW.TrodAll enc Try.prog W 0 (fun _ => true) true Try.f12.params.toList args.toList ds p := hA0
  rw [Try.params12] at hA hval hsz
  obtain ⟨v0, vs0, d0, ds0, p0, q0, hargs, rfl, rfl, h0, r0⟩ := trodAll_cons hA
  obtain ⟨rfl, rfl, rfl⟩ := trodAll_nil r0
  obtain rfl : args = #[v0] := by cases args; simp_all
  obtain ⟨rfl, rfl⟩ := trodVars_none hV
  obtain ⟨a0, len0, cap0, rfl⟩ := okWide_slice Try.underlying33 (hval 0 33 v0 rfl rfl)
  clear hA0 hval0
  simp only [List.append_nil, List.nil_append] at hW'
  have hlt := hW'.lt
  obtain ⟨zs0, hz0⟩ : ∃ zs, Ints16At W (.slice a0 len0 cap0) zs := by
    obtain ⟨fuel, hf⟩ := h0
    rcases open_ints Try.underlying33 Try.underlying22 cellsE hf with ⟨hcs, hx⟩ | ⟨a, len', cap', zs, hcs, _, hl, hm, hz, hx, hcell, hwz⟩
    · simp [Value.cells] at hcs
      obtain ⟨rfl, rfl, rfl⟩ := hcs
      exact ⟨[], Ints16At.nil _⟩
    · simp [Value.cells] at hcs
      obtain ⟨rfl, rfl, rfl⟩ := hcs
      simp only [if_true] at hz
      simp only [Prod.mk.injEq] at hx
      obtain ⟨hx1, hx2⟩ := hx
      subst hx1
      have hreach : len0 ≤ 70368744175616 := by
        have := sized_slice hsz (j := 0) (t := 33) (e := 22) rfl rfl Try.underlying33
        rw [bytesE] at this
        simp only [lits, List.length_map, List.length_take, List.length_drop, reachBytes] at this
        omega
      exact ⟨zs.take len0, Ints16At.mk' hl hz hreach hcell hwz⟩
  refine (splitOnce_walk W _ _ hz0).mono fun e W' ⟨he, hg⟩ => ?_
  subst he
  exact ⟨_, rfl, _, _, _, [], _, [], hW', (trodAll_cons_mk (shut_bool Try.underlying4 _) trodAll_mk0), (trodAll_cons_mk (Below.trod laidOut (by kernel_rfl) (of_decide_eq_true (by kernel_rfl)) h0 hg.below (fun x hx => hlt x (by simp [hx]))) trodAll_mk0), rfl, hg.below.frame _, fun h => by cases h⟩

theorem over : Rows.fnSplitOnceRow.holds Try.pinned (OpenSpec.ofChange Rows.fnSplitOnceSpec) :=
  OpenClaim.holds_of_wide 12 Try.f12 rfl rfl rfl rfl rfl rfl rfl ⟨rfl, rfl, rfl, rfl, rfl⟩ rfl rfl rfl rfl rfl (by kernel_rfl) Try.func12 (by kernel_rfl)
    (of_decide_eq_true (by kernel_rfl)) (by unfold Func.isWrapper; first | (rw [if_pos (by decide +kernel)]; kernel_rfl) | (rw [if_neg (by decide +kernel)]; exact ⟨rfl, rfl⟩))
    (fun os started H enc _ => lifted os started H enc)

theorem proved : Rows.FnSplitOnceSaid := over
#print axioms proved
end Go.Proofs.Ytenokcfpmfoekaa.fnSplitOnce
