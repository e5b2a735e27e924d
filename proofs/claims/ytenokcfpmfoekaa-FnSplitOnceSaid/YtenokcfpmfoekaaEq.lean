/- '==' on boxes. -/
import Derived.Test.YtenokcfpmfoekaaSpec
set_option linter.unusedSimpArgs false
set_option linter.unusedVariables false
namespace Go.Proofs.Ytenokcfpmfoekaa
open Go.RowKit Go.Bx

/-- Two boxes are the same. -/
def same (r s : R) : Bool := decide (r = s)

theorem stood_box : Try.prog.stoodInHeld 25 = false := by kernel_rfl
@[go_sem] theorem guard_box : Try.prog.eqGuardType Try.prog.depth 25 = false := by kernel_rfl
theorem size_int : (Try.prog.info? 3).map (·.size) = some 1 := by kernel_rfl
theorem fields_box : Try.prog.underlying 25 = some (.struct (Try.prog.fieldsOf 25)) := by kernel_rfl
theorem fields_box' : (Try.prog.fieldsOf 25).toList.map (fun f => (f.name == "_", f.type, f.offset)) = [(false, 23, 0), (false, 23, 2)] := by kernel_rfl

theorem run_equalIn_pair (d : Nat) (x0 x1 y0 y1 : Int) (w : World) :
    (Op.equalIn (d + 2) 23 (.agg #[.int .i64 x0, .int .i64 x1]) (.agg #[.int .i64 y0, .int .i64 y1])).run Try.prog w = .ok (x0 == y0 && x1 == y1) w := by
  have hs : ∀ w, (sizeOf 3).run Try.prog w = .ok 1 w := fun w => by kernel_rfl
  have hp : ∀ (a b : Int) w, (part 3 #[.int .i64 a, .int .i64 b] 0).run Try.prog w = .ok (.int .i64 a) w := fun a b w => by kernel_rfl
  have hq : ∀ (a b : Int) w, (part 3 #[.int .i64 a, .int .i64 b] 1).run Try.prog w = .ok (.int .i64 b) w := fun a b w => by kernel_rfl
  have he : ∀ (a b : Int) w, (Op.equalIn (d + 1) 3 (.int .i64 a) (.int .i64 b)).run Try.prog w = .ok (a == b) w := fun a b w => run_equalIn_int w d _ _ _ a b Try.underlying3
  unfold Op.equalIn
  generalize Op.equalIn (d + 1) = E at he ⊢
  simp only [Sem.run_bind, run_underlying Try.underlying23, Result.andThen_ok, hs]
  by_cases k0 : x0 = y0 <;> by_cases k1 : x1 = y1 <;> simp [Std.Legacy.Range.forIn_eq_forIn_range', List.range'_succ, hp, hq, he, k0, k1]

@[go_sem high] theorem run_eql_box (a b c d a' b' c' d' : Int) (w : World) :
    (binOp .eql 25 (.agg #[.int .i64 a, .int .i64 b, .int .i64 c, .int .i64 d]) (.agg #[.int .i64 a', .int .i64 b', .int .i64 c', .int .i64 d'])).run Try.prog w = .ok (.bool (same ⟨a, b, c, d⟩ ⟨a', b', c', d'⟩)) w := by
  rw [run_eql_struct, run_equalIn_struct _ _ _ _ _ fields_box stood_box]
  have h := fields_box'
  generalize (Try.prog.fieldsOf 25).toList = l at h
  rcases l with _ | ⟨f, _ | ⟨g, _ | ⟨_, _⟩⟩⟩
  · simp at h
  · simp at h
  · simp only [List.map_cons, List.map_nil, List.cons.injEq, Prod.mk.injEq, and_true] at h
    obtain ⟨⟨f1, f2, f3⟩, g1, g2, g3⟩ := h
    have hp : ∀ w, (part 23 #[.int .i64 a, .int .i64 b, .int .i64 c, .int .i64 d] 0).run Try.prog w = .ok (.agg #[.int .i64 a, .int .i64 b]) w := fun w => by kernel_rfl
    have hq : ∀ w, (part 23 #[.int .i64 a, .int .i64 b, .int .i64 c, .int .i64 d] 2).run Try.prog w = .ok (.agg #[.int .i64 c, .int .i64 d]) w := fun w => by kernel_rfl
    have hp' : ∀ w, (part 23 #[.int .i64 a', .int .i64 b', .int .i64 c', .int .i64 d'] 0).run Try.prog w = .ok (.agg #[.int .i64 a', .int .i64 b']) w := fun w => by kernel_rfl
    have hq' : ∀ w, (part 23 #[.int .i64 a', .int .i64 b', .int .i64 c', .int .i64 d'] 2).run Try.prog w = .ok (.agg #[.int .i64 c', .int .i64 d']) w := fun w => by kernel_rfl
    have nf : f.name ≠ "_" := by simpa using f1
    have ng : g.name ≠ "_" := by simpa using g1
    have e1 := fun w => run_equalIn_pair 9997 a b a' b' w
    have e2 := fun w => run_equalIn_pair 9997 c d c' d' w
    simp only [Nat.reduceAdd] at e1 e2
    simp only [Op.eqFields, nf, ng, f2, f3, g2, g3, ne_eq, not_false_eq_true, if_true, Sem.run_bind, Sem.run_ite, Sem.run_pure, hp, hp', hq, hq', Result.andThen_ok, e1, e2]
    by_cases k1 : a = a' <;> by_cases k2 : b = b' <;> by_cases k3 : c = c' <;> by_cases k4 : d = d' <;> simp [same, k1, k2, k3, k4]
  · simp at h
end Go.Proofs.Ytenokcfpmfoekaa
