/- The reference: boxes, '==' on items, the list without an item, the list behind steps. -/
import Derived.Test.YtboeldlilkeihaaRect
import Derived.Test.YtboeldlilkeihaaLst
import Derived.Lib.Hide
set_option linter.unusedSimpArgs false
set_option linter.unusedVariables false
/- The reference's functions over boxes, and '==' on boxes (for the trees' round: what lies in Thin, Spec, Eq for the other one). -/
namespace Go.Proofs.Ytboeldlilkeihaa
open Go.RowKit Go.Bx
/-- Fits sixteen bits. -/
def I16 (a : Int) : Prop := -32768 ≤ a ∧ a ≤ 32767

theorem specAround_c (w : World) (r s : R) :
    Calls Try.prog 29 #[.agg #[.int .i64 r.x0, .int .i64 r.y0, .int .i64 r.x1, .int .i64 r.y1], .agg #[.int .i64 s.x0, .int .i64 s.y0, .int .i64 s.x1, .int .i64 s.y1]] w fun e w' => e = .returned (.agg #[.int .i64 (r.expand s).x0, .int .i64 (r.expand s).y0, .int .i64 (r.expand s).x1, .int .i64 (r.expand s).y1]) ∧ Mix.Ex w w' := by
  go_enter Try.func29, Try.ntmps29
  go_wp2_with fail
  refine bodyPost_ret (v := .agg #[.int .i64 (r.expand s).x0, .int .i64 (r.expand s).y0, .int .i64 (r.expand s).x1, .int .i64 (r.expand s).y1]) (by simp [results, Try.results29, go_sem, R.expand]) rfl ⟨rfl, ?_⟩
  exact (((Mix.Ex.refl _).alloc _).alloc _).alloc _

theorem BoxOf_c (w : World) (a b c d : Int) (ha : -32768 ≤ a ∧ a ≤ 32767) (hb : -32768 ≤ b ∧ b ≤ 32767) (hc : -32768 ≤ c ∧ c ≤ 32767) (hd : -32768 ≤ d ∧ d ≤ 32767) :
    Calls Try.prog 23 #[.int .i16 a, .int .i16 b, .int .i16 c, .int .i16 d] w fun e w' => e = .returned (.agg #[.int .i64 (R.of4 a b c d).x0, .int .i64 (R.of4 a b c d).y0, .int .i64 (R.of4 a b c d).x1, .int .i64 (R.of4 a b c d).y1]) ∧ Mix.Ex w w' := by
  obtain ⟨a1, a2⟩ := ha
  obtain ⟨b1, b2⟩ := hb
  obtain ⟨c1, c2⟩ := hc
  obtain ⟨d1, d2⟩ := hd
  go_enter Try.func23, Try.ntmps23
  go_wp2
  refine bodyPost_ret (v := .agg #[.int .i64 (R.of4 a b c d).x0, .int .i64 (R.of4 a b c d).y0, .int .i64 (R.of4 a b c d).x1, .int .i64 (R.of4 a b c d).y1]) (by simp [results, Try.results23, go_sem, R.of4]) rfl ⟨rfl, ?_⟩
  exact (Mix.Ex.refl _).alloc _

@[go_sem high] theorem run_max_int3 (P : Program) (w : World) (ts : Array TypeId) (t : TypeId) (k k' k'' : IntKind) (x y z : Int) :
    (Builtin.max_ ts t #[.int k x, .int k' y, .int k'' z]).run P w = .ok (.int k (max (max x y) z)) w := by
  have e : ∀ (i j : IntKind) (a b : Int) (w : World), (Builtin.max2 (.int i a) (.int j b)).run P w = .ok (.int i (max a b)) w := fun i j a b w => by
    simp only [Builtin.max2]
    by_cases h : b > a
    · rw [show max a b = b by omega]; simp [h]
    · rw [show max a b = a by omega]; simp [h]
  simp [Builtin.max_, e]

theorem gap_eq {a b c d : Int} (h : a ≤ b) (k : c ≤ d) : max (max 0 (a - d)) (c - b) = R.gap a b c d := by
  simp only [R.gap]; omega

set_option maxRecDepth 100000 in
theorem specDist_c (w : World) (r s : R) (hr : r.small) (hs : s.small) (kr : r.ok) (ks : s.ok) :
    Calls Try.prog 28 #[.agg #[.int .i64 r.x0, .int .i64 r.y0, .int .i64 r.x1, .int .i64 r.y1], .agg #[.int .i64 s.x0, .int .i64 s.y0, .int .i64 s.x1, .int .i64 s.y1]] w fun e w' => e = .returned (.int .i64 (r.boxDist s)) ∧ Mix.Ex w w' := by
  obtain ⟨x0, y0, x1, y1⟩ := r
  obtain ⟨u0, v0, u1, v1⟩ := s
  obtain ⟨⟨a1, a2⟩, ⟨a3, a4⟩, ⟨a5, a6⟩, ⟨a7, a8⟩⟩ := hr
  obtain ⟨⟨b1, b2⟩, ⟨b3, b4⟩, ⟨b5, b6⟩, ⟨b7, b8⟩⟩ := hs
  obtain ⟨c1, c2⟩ := kr
  obtain ⟨d1, d2⟩ := ks
  dsimp only at *
  have e1 := gap_eq c1 d1
  have e2 := gap_eq c2 d2
  obtain ⟨g1, g2⟩ : 0 ≤ R.gap x0 x1 u0 u1 ∧ R.gap x0 x1 u0 u1 ≤ 65535 := by simp only [R.gap]; omega
  obtain ⟨g3, g4⟩ : 0 ≤ R.gap y0 y1 v0 v1 ∧ R.gap y0 y1 v0 v1 ≤ 65535 := by simp only [R.gap]; omega
  obtain ⟨m1, m2⟩ := mul_bound (a := R.gap x0 x1 u0 u1) (b := R.gap x0 x1 u0 u1) (by omega) (by omega)
  obtain ⟨m3, m4⟩ := mul_bound (a := R.gap y0 y1 v0 v1) (b := R.gap y0 y1 v0 v1) (by omega) (by omega)
  go_enter Try.func28, Try.ntmps28
  go_wp2_with fail
  refine wp_loop_rounds 3 ?_
  rw [rounds_succ]
  go_wp2_with fail
  (refine Mix.wp_region_dr (by kernel_rfl) (by kernel_rfl) ?_; (repeat (go_big_quiet_step (fail))); refine wpQuiet_nil ?_; intro nq)
  go_wp2_with fail
  rw [rounds_succ]
  go_wp2_with fail
  (refine Mix.wp_region_dr (by kernel_rfl) (by kernel_rfl) ?_; (repeat (go_big_quiet_step (fail))); refine wpQuiet_nil ?_; intro nq)
  go_wp2_with fail
  rw [rounds_succ]
  go_wp2_with fail
  go_ret
  refine ⟨ret_int (by simp [R.boxDist]), ?_⟩
  repeat (first | exact Mix.Ex.refl _ | apply Mix.Ex.drewN | apply Mix.Ex.alloc)

theorem ret_bool {a b : Bool} (h : a = b) : Ending.returned (.bool a) = .returned (.bool b) := by rw [h]

theorem specMeet_c (w : World) (r s : R) :
    Calls Try.prog 33 #[.agg #[.int .i64 r.x0, .int .i64 r.y0, .int .i64 r.x1, .int .i64 r.y1], .agg #[.int .i64 s.x0, .int .i64 s.y0, .int .i64 s.x1, .int .i64 s.y1]] w fun e w' => e = .returned (.bool (r.intersects s)) ∧ Mix.Ex w w' := by
  obtain ⟨x0, y0, x1, y1⟩ := r
  obtain ⟨u0, v0, u1, v1⟩ := s
  dsimp only
  go_enter Try.func33, Try.ntmps33
  go_wp2_with fail
  all_goals
    go_ret
    refine ⟨ret_bool ?_, ((Mix.Ex.refl _).alloc _).alloc _⟩
    dsimp only [R.intersects]
    rw [Bool.eq_iff_iff]
    simp
    omega

/-- Two boxes are the same. -/
def same (r s : R) : Bool := decide (r = s)

theorem stood_box : Try.prog.stoodInHeld 30 = false := by kernel_rfl
@[go_sem] theorem guard_box : Try.prog.eqGuardType Try.prog.depth 30 = false := by kernel_rfl
theorem size_int : (Try.prog.info? 3).map (·.size) = some 1 := by kernel_rfl
theorem fields_box : Try.prog.underlying 30 = some (.struct (Try.prog.fieldsOf 30)) := by kernel_rfl
theorem fields_box' : (Try.prog.fieldsOf 30).toList.map (fun f => (f.name == "_", f.type, f.offset)) = [(false, 28, 0), (false, 28, 2)] := by kernel_rfl

theorem run_equalIn_pair (d : Nat) (x0 x1 y0 y1 : Int) (w : World) :
    (Op.equalIn (d + 2) 28 (.agg #[.int .i64 x0, .int .i64 x1]) (.agg #[.int .i64 y0, .int .i64 y1])).run Try.prog w = .ok (x0 == y0 && x1 == y1) w := by
  have hs : ∀ w, (sizeOf 3).run Try.prog w = .ok 1 w := fun w => by kernel_rfl
  have hp : ∀ (a b : Int) w, (part 3 #[.int .i64 a, .int .i64 b] 0).run Try.prog w = .ok (.int .i64 a) w := fun a b w => by kernel_rfl
  have hq : ∀ (a b : Int) w, (part 3 #[.int .i64 a, .int .i64 b] 1).run Try.prog w = .ok (.int .i64 b) w := fun a b w => by kernel_rfl
  have he : ∀ (a b : Int) w, (Op.equalIn (d + 1) 3 (.int .i64 a) (.int .i64 b)).run Try.prog w = .ok (a == b) w := fun a b w => run_equalIn_int w d _ _ _ a b Try.underlying3
  unfold Op.equalIn
  generalize Op.equalIn (d + 1) = E at he ⊢
  simp only [Sem.run_bind, run_underlying Try.underlying28, Result.andThen_ok, hs]
  by_cases k0 : x0 = y0 <;> by_cases k1 : x1 = y1 <;> simp [Std.Legacy.Range.forIn_eq_forIn_range', List.range'_succ, hp, hq, he, k0, k1]

@[go_sem high] theorem run_eql_box (a b c d a' b' c' d' : Int) (w : World) :
    (binOp .eql 30 (.agg #[.int .i64 a, .int .i64 b, .int .i64 c, .int .i64 d]) (.agg #[.int .i64 a', .int .i64 b', .int .i64 c', .int .i64 d'])).run Try.prog w = .ok (.bool (same ⟨a, b, c, d⟩ ⟨a', b', c', d'⟩)) w := by
  rw [run_eql_struct, run_equalIn_struct _ _ _ _ _ fields_box stood_box]
  have h := fields_box'
  generalize (Try.prog.fieldsOf 30).toList = l at h
  rcases l with _ | ⟨f, _ | ⟨g, _ | ⟨_, _⟩⟩⟩
  · simp at h
  · simp at h
  · simp only [List.map_cons, List.map_nil, List.cons.injEq, Prod.mk.injEq, and_true] at h
    obtain ⟨⟨f1, f2, f3⟩, g1, g2, g3⟩ := h
    have hp : ∀ w, (part 28 #[.int .i64 a, .int .i64 b, .int .i64 c, .int .i64 d] 0).run Try.prog w = .ok (.agg #[.int .i64 a, .int .i64 b]) w := fun w => by kernel_rfl
    have hq : ∀ w, (part 28 #[.int .i64 a, .int .i64 b, .int .i64 c, .int .i64 d] 2).run Try.prog w = .ok (.agg #[.int .i64 c, .int .i64 d]) w := fun w => by kernel_rfl
    have hp' : ∀ w, (part 28 #[.int .i64 a', .int .i64 b', .int .i64 c', .int .i64 d'] 0).run Try.prog w = .ok (.agg #[.int .i64 a', .int .i64 b']) w := fun w => by kernel_rfl
    have hq' : ∀ w, (part 28 #[.int .i64 a', .int .i64 b', .int .i64 c', .int .i64 d'] 2).run Try.prog w = .ok (.agg #[.int .i64 c', .int .i64 d']) w := fun w => by kernel_rfl
    have nf : f.name ≠ "_" := by simpa using f1
    have ng : g.name ≠ "_" := by simpa using g1
    have e1 := fun w => run_equalIn_pair 9997 a b a' b' w
    have e2 := fun w => run_equalIn_pair 9997 c d c' d' w
    simp only [Nat.reduceAdd] at e1 e2
    simp only [Op.eqFields, nf, ng, f2, f3, g2, g3, ne_eq, not_false_eq_true, if_true, Sem.run_bind, Sem.run_ite, Sem.run_pure, hp, hp', hq, hq', Result.andThen_ok, e1, e2]
    by_cases k1 : a = a' <;> by_cases k2 : b = b' <;> by_cases k3 : c = c' <;> by_cases k4 : d = d' <;> simp [same, k1, k2, k3, k4]
  · simp at h
end Go.Proofs.Ytboeldlilkeihaa
/- '==' on items. -/
namespace Go.Proofs.Ytboeldlilkeihaa
open Go.RowKit Go.Bx
/-- Two items are the same. -/
def sameI (x y : R × Int) : Bool := decide (x = y)
theorem stood_item : Try.prog.stoodInHeld 35 = false := by kernel_rfl
@[go_sem] theorem guard_item : Try.prog.eqGuardType Try.prog.depth 35 = false := by kernel_rfl
theorem fields_item : Try.prog.underlying 35 = some (.struct (Try.prog.fieldsOf 35)) := by kernel_rfl
theorem fields_item' : (Try.prog.fieldsOf 35).toList.map (fun f => (f.name == "_", f.type, f.offset)) = [(false, 30, 0), (false, 3, 4)] := by kernel_rfl

theorem run_equalIn_box (d : Nat) (a b c e a' b' c' e' : Int) (w : World) :
    (Op.equalIn (d + 3) 30 (.agg #[.int .i64 a, .int .i64 b, .int .i64 c, .int .i64 e]) (.agg #[.int .i64 a', .int .i64 b', .int .i64 c', .int .i64 e'])).run Try.prog w = .ok (same ⟨a, b, c, e⟩ ⟨a', b', c', e'⟩) w := by
  rw [run_equalIn_struct _ _ _ _ _ fields_box stood_box]
  have h := fields_box'
  generalize (Try.prog.fieldsOf 30).toList = l at h
  rcases l with _ | ⟨f, _ | ⟨g, _ | ⟨_, _⟩⟩⟩
  · simp at h
  · simp at h
  · simp only [List.map_cons, List.map_nil, List.cons.injEq, Prod.mk.injEq, and_true] at h
    obtain ⟨⟨f1, f2, f3⟩, g1, g2, g3⟩ := h
    have hp : ∀ w, (part 28 #[.int .i64 a, .int .i64 b, .int .i64 c, .int .i64 e] 0).run Try.prog w = .ok (.agg #[.int .i64 a, .int .i64 b]) w := fun w => by kernel_rfl
    have hq : ∀ w, (part 28 #[.int .i64 a, .int .i64 b, .int .i64 c, .int .i64 e] 2).run Try.prog w = .ok (.agg #[.int .i64 c, .int .i64 e]) w := fun w => by kernel_rfl
    have hp' : ∀ w, (part 28 #[.int .i64 a', .int .i64 b', .int .i64 c', .int .i64 e'] 0).run Try.prog w = .ok (.agg #[.int .i64 a', .int .i64 b']) w := fun w => by kernel_rfl
    have hq' : ∀ w, (part 28 #[.int .i64 a', .int .i64 b', .int .i64 c', .int .i64 e'] 2).run Try.prog w = .ok (.agg #[.int .i64 c', .int .i64 e']) w := fun w => by kernel_rfl
    have nf : f.name ≠ "_" := by simpa using f1
    have ng : g.name ≠ "_" := by simpa using g1
    have e1 := fun w => run_equalIn_pair d a b a' b' w
    have e2 := fun w => run_equalIn_pair d c e c' e' w
    simp only [Op.eqFields, nf, ng, f2, f3, g2, g3, ne_eq, not_false_eq_true, if_true, Sem.run_bind, Sem.run_ite, Sem.run_pure, hp, hp', hq, hq', Result.andThen_ok, e1, e2]
    by_cases k1 : a = a' <;> by_cases k2 : b = b' <;> by_cases k3 : c = c' <;> by_cases k4 : e = e' <;> simp [same, k1, k2, k3, k4]
  · simp at h
theorem run_equalIn_item (d : Nat) (a b c e x a' b' c' e' x' : Int) (w : World) :
    (Op.equalIn (d + 4) 35 (.agg #[.int .i64 a, .int .i64 b, .int .i64 c, .int .i64 e, .int .i64 x]) (.agg #[.int .i64 a', .int .i64 b', .int .i64 c', .int .i64 e', .int .i64 x'])).run Try.prog w = .ok (sameI (⟨a, b, c, e⟩, x) (⟨a', b', c', e'⟩, x')) w := by
  rw [run_equalIn_struct _ _ _ _ _ fields_item stood_item]
  have h := fields_item'
  generalize (Try.prog.fieldsOf 35).toList = l at h
  rcases l with _ | ⟨f, _ | ⟨g, _ | ⟨_, _⟩⟩⟩
  · simp at h
  · simp at h
  · simp only [List.map_cons, List.map_nil, List.cons.injEq, Prod.mk.injEq, and_true] at h
    obtain ⟨⟨f1, f2, f3⟩, g1, g2, g3⟩ := h
    have hp : ∀ w, (part 30 #[.int .i64 a, .int .i64 b, .int .i64 c, .int .i64 e, .int .i64 x] 0).run Try.prog w = .ok (.agg #[.int .i64 a, .int .i64 b, .int .i64 c, .int .i64 e]) w := fun w => by kernel_rfl
    have hq : ∀ w, (part 3 #[.int .i64 a, .int .i64 b, .int .i64 c, .int .i64 e, .int .i64 x] 4).run Try.prog w = .ok (.int .i64 x) w := fun w => by kernel_rfl
    have hp' : ∀ w, (part 30 #[.int .i64 a', .int .i64 b', .int .i64 c', .int .i64 e', .int .i64 x'] 0).run Try.prog w = .ok (.agg #[.int .i64 a', .int .i64 b', .int .i64 c', .int .i64 e']) w := fun w => by kernel_rfl
    have hq' : ∀ w, (part 3 #[.int .i64 a', .int .i64 b', .int .i64 c', .int .i64 e', .int .i64 x'] 4).run Try.prog w = .ok (.int .i64 x') w := fun w => by kernel_rfl
    have nf : f.name ≠ "_" := by simpa using f1
    have ng : g.name ≠ "_" := by simpa using g1
    have e1 := fun w => run_equalIn_box d a b c e a' b' c' e' w
    have e2 : ∀ w, (Op.equalIn (d + 3) 3 (.int .i64 x) (.int .i64 x')).run Try.prog w = .ok (x == x') w := fun w => run_equalIn_int w (d + 2) _ _ _ x x' Try.underlying3
    simp only [Op.eqFields, nf, ng, f2, f3, g2, g3, ne_eq, not_false_eq_true, if_true, Sem.run_bind, Sem.run_ite, Sem.run_pure, hp, hp', hq, hq', Result.andThen_ok, e1, e2]
    by_cases k1 : (⟨a, b, c, e⟩ : R) = ⟨a', b', c', e'⟩ <;> by_cases k5 : x = x' <;> simp only [same, sameI, k1, k5, decide_true, decide_false, if_true, beq_self_eq_true, Prod.mk.injEq, and_true, true_and, and_false, Bool.false_eq_true, if_false, beq_eq_false_iff_ne.2, beq_eq_false_iff_ne, ne_eq, not_false_eq_true, Result.andThen_ok, Sem.run_pure] <;> rfl
  · simp at h
@[go_sem high] theorem run_eql_item (a b c e x a' b' c' e' x' : Int) (w : World) :
    (binOp .eql 35 (.agg #[.int .i64 a, .int .i64 b, .int .i64 c, .int .i64 e, .int .i64 x]) (.agg #[.int .i64 a', .int .i64 b', .int .i64 c', .int .i64 e', .int .i64 x'])).run Try.prog w = .ok (.bool (sameI (⟨a, b, c, e⟩, x) (⟨a', b', c', e'⟩, x'))) w := by
  rw [run_eql_struct, run_equalIn_item 9996]; rfl
@[go_sem high] theorem run_neq_item (a b c e x a' b' c' e' x' : Int) (w : World) :
    (binOp .neq 35 (.agg #[.int .i64 a, .int .i64 b, .int .i64 c, .int .i64 e, .int .i64 x]) (.agg #[.int .i64 a', .int .i64 b', .int .i64 c', .int .i64 e', .int .i64 x'])).run Try.prog w = .ok (.bool (!sameI (⟨a, b, c, e⟩, x) (⟨a', b', c', e'⟩, x'))) w := by
  rw [run_neq_struct, run_equalIn_item 9996]; rfl
end Go.Proofs.Ytboeldlilkeihaa
/- The list of items without one that is the same. -/
namespace Go
open Go.RowKit
theorem World.Row.slice {α : Type} {w : World} {base : Nat} {e : TypeId} {size : Nat} {f : α → List Value} {v : Value} {L : List α} (h : w.Row base e size f v L) : ∃ o cap, v = .slice o L.length cap ∧ (0 < L.length → ∃ g, o = some ⟨g, 0, none⟩) := by
  rcases h.form with ⟨rfl, rfl⟩ | ⟨g, cap, rfl, _⟩
  · exact ⟨none, 0, rfl, fun h => by simp at h⟩
  · exact ⟨_, cap, rfl, fun _ => ⟨g, rfl⟩⟩
theorem World.Row.mono {α : Type} {w : World} {base base' : Nat} {e : TypeId} {size : Nat} {f : α → List Value} {v : Value} {L : List α} (h : w.Row base e size f v L) (hb : base' ≤ base) : w.Row base' e size f v L := by
  refine ⟨h.len, h.own.1, ?_⟩
  rcases h.own.2 with h | ⟨g, cap, cur, rfl, h1, h2, h3⟩
  · exact .inl h
  · exact .inr ⟨g, cap, cur, rfl, Nat.le_trans hb h1, h2, h3⟩
theorem takeN_snoc {α : Type} {L : List α} {k : Nat} {x : α} (h : L[k]? = some x) : L.take (k + 1) = L.take k ++ [x] := by rw [List.take_add_one, h]; rfl
theorem cellOf {w : World} {b : Nat} {cs : Array Value} {T : TypeId} (h : w.heap[b]? = some (.cells cs T (0, 0))) (o : Nat) : w.cell? ⟨b, o, none⟩ = cs[o]? := by
  unfold World.cell?; rw [h]; simp
end Go
namespace Go.Proofs.Ytboeldlilkeihaa
open Go.RowKit Go.Bx
theorem info_item : (Try.prog.info? 35).map (fun i => (i.zero, i.size, i.bytes)) = some (some (.agg #[.int .i64 0, .int .i64 0, .int .i64 0, .int .i64 0, .int .i64 0]), 5, 40) := by kernel_rfl
/-- The list at step k. -/
def takenK (L : List (R × Int)) (x : R × Int) (k : Nat) : List (R × Int) := (L.take k).erase x
theorem takenK_eq {L : List (R × Int)} {x y : R × Int} {k : Nat} (h : L[k]? = some y) (hn : x ∉ L.take k) (e : sameI y x = true) : takenK L x (k + 1) = takenK L x k ∧ x ∈ L.take (k + 1) := by
  have e : y = x := of_decide_eq_true e
  subst e
  unfold takenK
  rw [takeN_snoc h]
  refine ⟨?_, by simp⟩
  rw [List.erase_append, if_neg hn, List.erase_of_not_mem hn]; simp
theorem takenK_ne {L : List (R × Int)} {x y : R × Int} {k : Nat} (h : L[k]? = some y) (e : x ∈ L.take k ∨ sameI y x = false) : takenK L x (k + 1) = takenK L x k ++ [y] ∧ (x ∈ L.take (k + 1) ↔ x ∈ L.take k) := by
  unfold takenK
  rw [takeN_snoc h]
  by_cases hm : x ∈ L.take k
  · exact ⟨by rw [List.erase_append, if_pos hm], by simp [hm]⟩
  · have hne : y ≠ x := by
      rcases e with e | e
      · exact absurd e hm
      · exact of_decide_eq_false e
    exact ⟨by rw [List.erase_append, if_neg hm, List.erase_of_not_mem hm, List.erase_of_not_mem (by simp [Ne.symm hne])], by simp [hm, Ne.symm hne]⟩
theorem row_cells5 {w : World} {b0 g n cap k : Nat} {T : TypeId} {L : List (R × Int)} {y : R × Int} (h : w.Row b0 T 5 itemV (.slice (some ⟨g, 0, none⟩) n cap) L) (hk : L[k]? = some y) :
    w.cell? ⟨g, k * 5, none⟩ = some (.int .i64 y.1.x0) ∧ w.cell? ⟨g, k * 5 + 1, none⟩ = some (.int .i64 y.1.y0) ∧ w.cell? ⟨g, k * 5 + 2, none⟩ = some (.int .i64 y.1.x1) ∧ w.cell? ⟨g, k * 5 + 3, none⟩ = some (.int .i64 y.1.y1) ∧ w.cell? ⟨g, k * 5 + 4, none⟩ = some (.int .i64 y.2) :=
  ⟨h.cell (j := 0) hk rfl, h.cell (j := 1) hk rfl, h.cell (j := 2) hk rfl, h.cell (j := 3) hk rfl, h.cell (j := 4) hk rfl⟩
set_option maxRecDepth 100000 in
set_option maxHeartbeats 1600000 in
theorem taken_c (w : World) (b0 : Nat) (v : Value) (L : List (R × Int)) (x : R × Int) (hr : w.Row b0 35 5 itemV v L) (hm : L.length ≤ 1000000) :
    Calls Try.prog 42 #[v, .agg #[.int .i64 x.1.x0, .int .i64 x.1.y0, .int .i64 x.1.x1, .int .i64 x.1.y1, .int .i64 x.2]] w fun e w' => ∃ g cap, e = .returned (.tuple #[.slice (some ⟨g, 0, none⟩) (L.erase x).length cap, .bool (decide (x ∈ L))]) ∧
      w'.Row w.heap.size 35 5 itemV (.slice (some ⟨g, 0, none⟩) (L.erase x).length cap) (L.erase x) ∧ Mix.Ex w w' := by
  obtain ⟨i0, hi0, hz0, hz1, hz2⟩ := info_parts info_item
  obtain ⟨o, cap0, rfl, ho⟩ := hr.slice
  obtain ⟨n, hn⟩ : ∃ n, L.length = n := ⟨_, rfl⟩
  rw [hn] at hr hm ho ⊢
  obtain ⟨B, hB⟩ : ∃ B, w.heap.size = B := ⟨_, rfl⟩
  have HN := Lib.hid hn
  have HR := Lib.hid hr
  clear hn hr
  go_enter Try.func42, Try.ntmps42
  go_wp2_with fail
  go_loopw [6, 7, 13] (fun v q i wr => ∃ kk g cap : Nat, kk ≤ n ∧ i = .int .i64 kk ∧ v = .slice (some ⟨g, 0, none⟩) (takenK L x kk).length cap ∧ q = .bool (decide (x ∈ L.take kk)) ∧
      wr.Row (B + 1) 35 5 itemV v (takenK L x kk) ∧ wr.heap[B]? = some (.cells (itemV x).toArray 35 (0, 0)) ∧ Mix.Ex w wr) (fun _ _ i _ => n - (intOf i).toNat)
  case atStart =>
    refine ⟨0, B + 1, 0, by omega, rfl, rfl, rfl, .made itemV_len (B + 1) (by omega) ?_, ?_, ((Mix.Ex.refl _).alloc _).alloc _⟩
    · have := heap_alloc_new (w.alloc (.cells (itemV x).toArray 35)) (.cells #[] 35)
      rw [← hB]; rw [World.size_alloc] at this; exact this
    · have h1 := heap_alloc_new w (.cells (itemV x).toArray 35)
      rw [hB] at h1
      exact (((Mix.Ex.refl (w.alloc (.cells (itemV x).toArray 35))).alloc (.cells #[] 35)).below.block B (by simp; omega)).trans h1
  case round =>
    obtain ⟨kk, g, cap, hk, rfl, rfl, rfl, hrow, hbx, hx⟩ := hrel
    by_cases hlt : kk < n
    case neg =>
      have hkn : kk = n := by omega
      have e : L.take kk = L := List.take_of_length_le (by have := HN.out; omega)
      unfold takenK at hrow ⊢
      rw [e] at hrow ⊢
      subst hkn
      go_wp2_with fail
      refine bodyPost_ret (v := .tuple #[.slice (some ⟨g, 0, none⟩) (L.erase x).length cap, .bool (decide (x ∈ L))]) (by simp [results, Try.results42, go_sem]) rfl ⟨g, cap, rfl, by rw [hB]; exact hrow.mono (by omega), hx⟩
    obtain ⟨g0, rfl⟩ := ho (by omega)
    obtain ⟨y, hy⟩ : ∃ y, L[kk]? = some y := ⟨L[kk]'(by have := HN.out; omega), List.getElem?_eq_getElem _⟩
    obtain ⟨l0, l1, l2, l3, l4⟩ := row_cells5 (HR.out.ex hx) hy
    have hbs := hx.below.size
    have m0 := cellOf hbx 0
    have m1 := cellOf hbx 1
    have m2 := cellOf hbx 2
    have m3 := cellOf hbx 3
    have m4 := cellOf hbx 4
    simp only [itemV, List.getElem?_toArray, List.getElem?_cons_zero, List.getElem?_cons_succ] at m0 m1 m2 m3 m4
    have hBw := World.block_lt_of_cell? wr _ m0
    dsimp only at hBw
    have hlen : (takenK L x kk).length ≤ 1000000 := Nat.le_trans List.length_erase_le (by rw [List.length_take]; omega)
    have HROW := Lib.hid hrow
    have HBX := Lib.hid hbx
    clear hrow hbx
    obtain ⟨q, hq⟩ : ∃ q, decide (x ∈ L.take kk) = q := ⟨_, rfl⟩
    rw [hq]
    obtain ⟨d, hd⟩ : ∃ d, sameI y x = d := ⟨_, rfl⟩
    have hd' : sameI (⟨y.1.x0, y.1.y0, y.1.x1, y.1.y1⟩, y.2) (⟨x.1.x0, x.1.y0, x.1.x1, x.1.y1⟩, x.2) = d := hd
    cases q
    case true =>
      obtain ⟨htk, hmm⟩ := takenK_ne (x := x) hy (.inl (of_decide_eq_true hq))
      have HTK := Lib.hid htk
      have HMM := Lib.hid hmm
      have HQ := Lib.hid hq
      clear htk hmm hq hd
      have hrow := HROW.out
      have hx1 := (hx.alloc (.cells (itemV y).toArray 35)).alloc (.cells (itemV y).toArray 35)
      have hbx1 : ((wr.alloc (.cells (itemV y).toArray 35)).alloc (.cells (itemV y).toArray 35)).heap[B]? = some (.cells (itemV x).toArray 35 (0, 0)) := ((((Mix.Ex.refl wr).alloc _).alloc _).below.block B hBw).trans HBX.out
      have HBX1 := Lib.hid hbx1
      have HX := Lib.hid hx
      have HX1 := Lib.hid hx1
      clear hbx1 hx hx1
      go_wp2_with (at_builtin; refine wpList_append_row _ rfl (.tmp 24) (.tmp 26) 26 rfl (B + 1) 35 i0 _ 5 40 Try.underlying26 hi0 hz0 hz1 hz2 rfl (by omega) itemV (.slice (some ⟨g, 0, none⟩) (takenK L x kk).length cap) (takenK L x kk) y rfl (hrow.ex (((Mix.Ex.refl _).alloc _).alloc _)) ⟨wr.heap.size + 1, 0, none⟩ 1 rfl (World.news_of_block (cs := (itemV y).toArray) (by rw [show wr.heap.size + 1 = (wr.alloc (.cells (itemV y).toArray 35)).heap.size by simp]; exact heap_alloc_new _ _)) (itemV_one _) (by unfold maxLen; omega) (by omega) (by simp; omega) ?_; intro g2 cap2 w3 hrow3 hgrow hat2 hlt2)
      have hx3 := HX1.out.grown hgrow (fun j hj => by simp [Value.ownBlock] at hj; subst hj; have := (hrow.lt g rfl).1; omega)
      have hb3 : w3.heap[B]? = some (.cells (itemV x).toArray 35 (0, 0)) := (hgrow.block B (by simp; omega) (by simp only [Value.ownBlock, ne_eq, Option.some.injEq]; have := (hrow.lt g rfl).1; omega)).trans HBX1.out
      go_roundw
      case rel =>
        refine ⟨kk + 1, g2, cap2, by omega, by go_num, by rw [HTK.out, List.length_append]; rfl, ?_, by rw [HTK.out]; exact hrow3, hb3, hx3⟩
        rw [← HQ.out, decide_eq_decide.2 HMM.out]
      case measure => simp [intOf]; omega
    cases d
    case true =>
      obtain ⟨htk, hmm⟩ := takenK_eq (x := x) hy (of_decide_eq_false hq) hd
      have HTK := Lib.hid htk
      have HMM := Lib.hid hmm
      clear htk hmm hq hd
      go_wp2_with fail
      go_roundw
      case rel =>
        refine ⟨kk + 1, g, cap, by omega, by go_num, by rw [HTK.out], by rw [decide_eq_true HMM.out], by rw [HTK.out]; exact HROW.out.ex ((Mix.Ex.refl _).alloc _), ((((Mix.Ex.refl wr).alloc _)).below.block B hBw).trans HBX.out, hx.alloc _⟩
      case measure => simp [intOf]; omega
    obtain ⟨htk, hmm⟩ := takenK_ne (x := x) hy (.inr hd)
    have HTK := Lib.hid htk
    have HMM := Lib.hid hmm
    have HQ := Lib.hid hq
    clear htk hmm hq hd
    have hrow := HROW.out
    have hx1 := (hx.alloc (.cells (itemV y).toArray 35)).alloc (.cells (itemV y).toArray 35)
    have hbx1 : ((wr.alloc (.cells (itemV y).toArray 35)).alloc (.cells (itemV y).toArray 35)).heap[B]? = some (.cells (itemV x).toArray 35 (0, 0)) := ((((Mix.Ex.refl wr).alloc _).alloc _).below.block B hBw).trans HBX.out
    have HBX1 := Lib.hid hbx1
    have HX := Lib.hid hx
    have HX1 := Lib.hid hx1
    clear hbx1 hx hx1
    go_wp2_with (at_builtin; refine wpList_append_row _ rfl (.tmp 24) (.tmp 26) 26 rfl (B + 1) 35 i0 _ 5 40 Try.underlying26 hi0 hz0 hz1 hz2 rfl (by omega) itemV (.slice (some ⟨g, 0, none⟩) (takenK L x kk).length cap) (takenK L x kk) y rfl (hrow.ex (((Mix.Ex.refl _).alloc _).alloc _)) ⟨wr.heap.size + 1, 0, none⟩ 1 rfl (World.news_of_block (cs := (itemV y).toArray) (by rw [show wr.heap.size + 1 = (wr.alloc (.cells (itemV y).toArray 35)).heap.size by simp]; exact heap_alloc_new _ _)) (itemV_one _) (by unfold maxLen; omega) (by omega) (by simp; omega) ?_; intro g2 cap2 w3 hrow3 hgrow hat2 hlt2)
    have hx3 := HX1.out.grown hgrow (fun j hj => by simp [Value.ownBlock] at hj; subst hj; have := (hrow.lt g rfl).1; omega)
    have hb3 : w3.heap[B]? = some (.cells (itemV x).toArray 35 (0, 0)) := (hgrow.block B (by simp; omega) (by simp only [Value.ownBlock, ne_eq, Option.some.injEq]; have := (hrow.lt g rfl).1; omega)).trans HBX1.out
    go_roundw
    case rel =>
      refine ⟨kk + 1, g2, cap2, by omega, by go_num, by rw [HTK.out, List.length_append]; rfl, ?_, by rw [HTK.out]; exact hrow3, hb3, hx3⟩
      rw [← HQ.out, decide_eq_decide.2 HMM.out]
    case measure => simp [intOf]; omega
end Go.Proofs.Ytboeldlilkeihaa
/- The list of items behind steps. -/
namespace Go.Bx
theorem play1_len (st : Stp) (L : List (R × Int)) : (play1 st L).length ≤ L.length + 1 := by
  have h := List.length_erase_le (a := st.o) (l := L)
  unfold play1
  repeat' split
  all_goals simp
  all_goals omega
theorem play_len (S : List Stp) : ∀ (L : List (R × Int)), (play L S).length ≤ L.length + S.length := by
  induction S with
  | nil => intro L; exact Nat.le_refl _
  | cons st S ih =>
    intro L
    have := ih (play1 st L)
    have := play1_len st L
    show (play (play1 st L) S).length ≤ _
    simp only [List.length_cons]; omega
end Go.Bx
namespace Go.Proofs.Ytboeldlilkeihaa
open Go.RowKit Go.Bx
set_option maxRecDepth 100000 in
set_option maxHeartbeats 1600000 in
theorem play_c (w : World) (b0 b1 : Nat) (v : Value) (L : List (R × Int)) (hr : w.Row b0 35 5 itemV v L) (g1 n cap1 : Nat) (S : List Stp) (hS : w.Row b1 37 11 stepV (.slice (some ⟨g1, 0, none⟩) n cap1) S) (hn : S.length = n) (hm : L.length + n ≤ 900000) :
    Calls Try.prog 26 #[v, .slice (some ⟨g1, 0, none⟩) n cap1] w fun e w' => ∃ v', e = .returned v' ∧ w'.Row w.heap.size 35 5 itemV v' (play L S) ∧ Mix.Ex w w' := by
  obtain ⟨i0, hi0, hz0, hz1, hz2⟩ := info_parts info_item
  obtain ⟨B, hB⟩ : ∃ B, w.heap.size = B := ⟨_, rfl⟩
  have HN := Lib.hid hn
  have HS := Lib.hid hS
  clear hn hS
  go_enter Try.func26, Try.ntmps26
  have h0 : (w.alloc (.cells #[] 35)).Row B 35 5 itemV (.slice (some ⟨B, 0, none⟩) 0 0) [] := .made itemV_len B (Nat.le_refl _) (by rw [← hB]; exact heap_alloc_new w _)
  go_upto_region 2 with (at_builtin; refine wpList_append_rows rfl (.tmp 9) (.tmp 10) 26 rfl B 35 i0 _ 5 40 Try.underlying26 hi0 hz0 hz1 hz2 rfl (by omega) itemV itemV_one (.slice (some ⟨B, 0, none⟩) 0 0) [] rfl h0 b0 v L rfl (hr.ex ((Mix.Ex.refl _).alloc _)) (by simp [maxLen]; omega) (by simp; omega) (by simp; omega) ?_; intro v2 w2 hrow2 hgrow2 hat2)
  have hx2 : Mix.Ex w w2 := ((Mix.Ex.refl w).alloc _).grown hgrow2 (fun j hj => by simp [Value.ownBlock] at hj; omega)
  rw [List.nil_append] at hrow2
  clear hgrow2 hat2 h0 hr
  go_wp2_with fail
  go_loopw [5, 14] (fun u i wr => ∃ kk : Nat, kk ≤ n ∧ i = .int .i64 kk ∧ wr.Row B 35 5 itemV u (play L (S.take kk)) ∧ Mix.Ex w wr) (fun _ i _ => n - (intOf i).toNat)
  case atStart => exact ⟨0, by omega, rfl, hrow2, hx2⟩
  case round =>
    obtain ⟨kk, hk, rfl, hrow, hx⟩ := hrel
    by_cases hlt : kk < n
    case neg =>
      have e : S.take kk = S := List.take_of_length_le (by have := HN.out; omega)
      rw [e] at hrow
      have hkn : kk = n := by omega
      subst hkn
      go_wp2_with fail
      go_ret
      exact ⟨_, rfl, by rw [hB]; exact hrow, hx⟩
    obtain ⟨st, hst⟩ : ∃ st, S[kk]? = some st := ⟨S[kk]'(by have := HN.out; omega), List.getElem?_eq_getElem _⟩
    have hSr := HS.out.ex hx
    have c0 : wr.cell? ⟨g1, kk * 11, none⟩ = some (.int .i64 st.k) := hSr.cell (j := 0) hst rfl
    have c1 := hSr.cell (j := 1) hst rfl
    have c2 := hSr.cell (j := 2) hst rfl
    have c3 := hSr.cell (j := 3) hst rfl
    have c4 := hSr.cell (j := 4) hst rfl
    have c5 := hSr.cell (j := 5) hst rfl
    have c6 := hSr.cell (j := 6) hst rfl
    have c7 := hSr.cell (j := 7) hst rfl
    have c8 := hSr.cell (j := 8) hst rfl
    have c9 := hSr.cell (j := 9) hst rfl
    have c10 := hSr.cell (j := 10) hst rfl
    have hpl : (play L (S.take kk)).length ≤ 900000 := by
      have := play_len (S.take kk) L
      rw [List.length_take] at this
      omega
    have hsn : play L (S.take (kk + 1)) = play1 st (play L (S.take kk)) := by rw [takeN_snoc hst, play_snoc]
    have HSN := Lib.hid hsn
    have hbs := hx.below.size
    clear hSr hst hsn
    generalize play L (S.take kk) = M at hrow hpl HSN
    go_upto_region 5 with (fail)
    have hx1 := hx.alloc (.cells (stepV st).toArray 37)
    have hrow1 := hrow.ex ((Mix.Ex.refl wr).alloc (.cells (stepV st).toArray 37))
    have hnew := heap_alloc_new wr (.cells (stepV st).toArray 37)
    change Code.wp _ _ _ _ (wr.alloc (.cells (stepV st).toArray 37))
    generalize wr.heap.size = B1 at hnew hbs ⊢
    generalize (wr.alloc (.cells (stepV st).toArray 37)) = w1 at hx1 hrow1 hnew ⊢
    clear c0 c1 c2 c3 c4 c5 c6 c7 c8 c9 c10 hx hrow
    have c0 := cellOf hnew 0
    have c1 := cellOf hnew 1
    have c2 := cellOf hnew 2
    have c3 := cellOf hnew 3
    have c4 := cellOf hnew 4
    have c5 := cellOf hnew 5
    have c6 := cellOf hnew 6
    have c7 := cellOf hnew 7
    have c8 := cellOf hnew 8
    have c9 := cellOf hnew 9
    have c10 := cellOf hnew 10
    simp only [stepV, List.getElem?_toArray, List.getElem?_cons_zero, List.getElem?_cons_succ] at c0 c1 c2 c3 c4 c5 c6 c7 c8 c9 c10
    have hs1 := hx1.below.size
    have hB1 := World.block_lt_of_cell? w1 _ c0
    dsimp only at hB1
    have HX1 := Lib.hid hx1
    clear hnew hx1
    by_cases k0 : st.k = 0
    · have e0 : (st.k == 0) = true := by simp [k0]
      have HK := Lib.hid k0
      clear k0
      go_wp2_with (at_builtin; refine wpList_append_row _ rfl (.tmp 22) (.tmp 25) 26 rfl B 35 i0 _ 5 40 Try.underlying26 hi0 hz0 hz1 hz2 rfl (by omega) itemV u5 M st.o rfl (hrow1.ex ((Mix.Ex.refl _).alloc _)) ⟨_, 0, none⟩ 1 rfl (World.news_of_block (cs := (itemV st.o).toArray) (heap_alloc_new _ _)) (itemV_one _) (by unfold maxLen; omega) (by omega) (by simp; omega) ?_; intro g2 cap2 w3 hrow3 hgrow hat2 hlt2)
      have hx3 := (HX1.out.alloc (.cells (itemV st.o).toArray 35)).grown hgrow (fun j hj => by have := (hrow1.lt j hj).1; omega)
      go_roundw
      case measure => simp [intOf]; omega
      case rel => exact ⟨kk + 1, by omega, by go_num, by rw [HSN.out]; unfold play1; rw [if_pos HK.out]; exact hrow3, hx3⟩
    have e0 : (st.k == 0) = false := by simp [k0]
    have HK0 := Lib.hid k0
    clear k0
    by_cases k1 : st.k = 1
    · have e1 : (st.k == 1) = true := by simp [k1]
      have HK := Lib.hid k1
      clear k1
      go_wp2_with fail
      refine (taken_c _ B u5 M st.o hrow1 (by omega)).mono ?_
      rintro e w4 ⟨g4, cap4, rfl, hrow4, hx4⟩
      have hx5 := HX1.out.trans hx4
      have hrow5 := hrow4.mono (base' := B) (by omega)
      clear hrow4 hx4
      go_wp2_with fail
      go_roundw
      case measure => simp [intOf]; omega
      case rel => exact ⟨kk + 1, by omega, by go_num, by rw [HSN.out]; unfold play1; rw [if_neg HK0.out, if_pos HK.out]; exact hrow5, hx5⟩
    have e1 : (st.k == 1) = false := by simp [k1]
    have HK1 := Lib.hid k1
    clear k1
    by_cases k2 : st.k = 2
    · have e2 : (st.k == 2) = true := by simp [k2]
      have HK := Lib.hid k2
      clear k2
      go_wp2_with fail
      refine (taken_c _ B u5 M st.o hrow1 (by omega)).mono ?_
      rintro e w4 ⟨g4, cap4, rfl, hrow4, hx4⟩
      have hx5 := HX1.out.trans hx4
      have hrow5 := hrow4.mono (base' := B) (by omega)
      have d6 := hx4.cell c6
      have d7 := hx4.cell c7
      have d8 := hx4.cell c8
      have d9 := hx4.cell c9
      have d10 := hx4.cell c10
      have hel : (M.erase st.o).length ≤ 900000 := Nat.le_trans List.length_erase_le hpl
      clear hrow4 c0 c1 c2 c3 c4 c5 c6 c7 c8 c9 c10
      have hs5 := hx5.below.size
      have HX5 := Lib.hid hx5
      clear hx5 hx4
      by_cases hm : st.o ∈ M
      · have hmd : decide (st.o ∈ M) = true := decide_eq_true hm
        rw [hmd]
        clear hmd
        have HM := Lib.hid hm
        clear hm
        go_wp2_with (at_builtin; refine wpList_append_row _ rfl (.tmp 46) (.tmp 49) 26 rfl B 35 i0 _ 5 40 Try.underlying26 hi0 hz0 hz1 hz2 rfl (by omega) itemV (.slice (some ⟨g4, 0, none⟩) (M.erase st.o).length cap4) (M.erase st.o) st.n rfl (hrow5.ex ((Mix.Ex.refl _).alloc _)) ⟨_, 0, none⟩ 1 rfl (World.news_of_block (cs := (itemV st.n).toArray) (heap_alloc_new _ _)) (itemV_one _) (by unfold maxLen; omega) (by omega) (by simp; omega) ?_; intro g2 cap2 w3 hrow3 hgrow hat2 hlt2)
        have hx3 := (HX5.out.alloc (.cells (itemV st.n).toArray 35)).grown hgrow (fun j hj => by have := (hrow5.lt j hj).1; omega)
        go_roundw
        case measure => simp [intOf]; omega
        case rel => exact ⟨kk + 1, by omega, by go_num, by rw [HSN.out]; unfold play1; rw [if_neg HK0.out, if_neg HK1.out, if_pos HK.out, if_pos HM.out]; exact hrow3, hx3⟩
      · have hmd : decide (st.o ∈ M) = false := decide_eq_false hm
        rw [hmd]
        clear hmd
        have HM := Lib.hid hm
        clear hm
        go_wp2_with fail
        go_roundw
        case measure => simp [intOf]; omega
        case rel => exact ⟨kk + 1, by omega, by go_num, by rw [HSN.out]; unfold play1; rw [if_neg HK0.out, if_neg HK1.out, if_pos HK.out, if_neg HM.out]; exact hrow5, HX5.out⟩
    have e2 : (st.k == 2) = false := by simp [k2]
    have HK2 := Lib.hid k2
    clear k2
    by_cases k3 : st.k = 3
    · have e3 : (st.k == 3) = true := by simp [k3]
      have HK := Lib.hid k3
      clear k3
      go_wp2_with fail
      go_roundw
      case measure => simp [intOf]; omega
      case rel => exact ⟨kk + 1, by omega, by go_num, by rw [HSN.out]; unfold play1; rw [if_neg HK0.out, if_neg HK1.out, if_neg HK2.out, if_pos HK.out]; exact .nil itemV_len, HX1.out⟩
    · have e3 : (st.k == 3) = false := by simp [k3]
      have HK := Lib.hid k3
      clear k3
      go_wp2_with fail
      go_roundw
      case measure => simp [intOf]; omega
      case rel => exact ⟨kk + 1, by omega, by go_num, by rw [HSN.out]; unfold play1; rw [if_neg HK0.out, if_neg HK1.out, if_neg HK2.out, if_neg HK.out]; exact hrow1, HX1.out⟩
end Go.Proofs.Ytboeldlilkeihaa
