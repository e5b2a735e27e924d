/- The walk of the law on sorting. -/
import Derived.Test.YtenokcfpmfoekaaOnce
import Derived.Test.YtenokcfpmfoekaaSplit
set_option linter.unusedSimpArgs false
set_option linter.unusedVariables false
namespace Go
namespace Bx
theorem sort_facts {rs : List R} {n : Nat} (hn : rs.length = n) {a : Nat} {rev mx : Bool} {g : Nat → Int} (hg : fE (qs (keyK a rev mx) n (fun i => (if i < n then rs.getD i R0 else R0, if i < n then Value.int .i64 i else .int .i64 0)) 0 n) = fun k => .int .i64 (g k)) :
    ∃ σ : Nat → Nat, (∀ i, i < n → g i = σ i ∧ σ i < n) ∧ (∀ i j, i < n → j < n → σ i = σ j → i = j) ∧
      ∀ i, i + 1 < n → ∀ r s, rs[σ i]? = some r → rs[σ (i + 1)]? = some s → (rev = false → rcell r ((if mx then 2 else 0) + a) ≤ rcell s ((if mx then 2 else 0) + a)) ∧ (rev = true → rcell s ((if mx then 2 else 0) + a) ≤ rcell r ((if mx then 2 else 0) + a)) := by
  obtain ⟨⟨σ, τ, h1, h2, h3, h4⟩, hs⟩ := qs_spec (keyK a rev mx) n (fun i => (if i < n then rs.getD i R0 else R0, if i < n then Value.int .i64 i else .int .i64 0)) 0 n (Nat.le_refl _)
  generalize qs (keyK a rev mx) n (fun i => (if i < n then rs.getD i R0 else R0, if i < n then Value.int .i64 i else .int .i64 0)) 0 n = F at *
  have hin : ∀ i, i < n → σ i < n := fun i hi => by have := IsP.inside (s := 0) (m := n) h2 h4 (i := i) (by omega); omega
  refine ⟨σ, fun i hi => ⟨?_, hin i hi⟩, fun i j hi hj e => by have := congrArg τ e; rwa [h2, h2] at this, fun i hi r s hr hs' => ?_⟩
  · have e := congrFun hg i
    unfold fE at e
    rw [h3 i] at e
    dsimp only at e
    rw [if_pos (hin i hi)] at e
    simpa using e.symm
  · have hk := hs i (i + 1) (by omega) (by omega) (by omega)
    have e1 : (F i).1 = r := by rw [h3 i]; dsimp only; rw [if_pos (hin i (by omega)), List.getD_eq_getElem?_getD, hr]; rfl
    have e2 : (F (i + 1)).1 = s := by rw [h3 (i + 1)]; dsimp only; rw [if_pos (hin (i + 1) hi), List.getD_eq_getElem?_getD, hs']; rfl
    unfold keyK at hk
    rw [e1, e2] at hk
    constructor
    · rintro rfl; simpa using hk
    · rintro rfl
      simp only [if_true] at hk
      omega
theorem once_facts {n : Nat} {g : Nat → Int} {σ : Nat → Nat} (h1 : ∀ i, i < n → g i = σ i ∧ σ i < n) (h2 : ∀ i j, i < n → j < n → σ i = σ j → i = j) :
    (∀ x ∈ [(List.range n).map g].flatten, 0 ≤ x ∧ x < n) ∧ [(List.range n).map g].flatten.Nodup ∧ [(List.range n).map g].flatten.length = n := by
  simp only [List.flatten_cons, List.flatten_nil, List.append_nil]
  refine ⟨fun x hx => ?_, ?_, by simp⟩
  · obtain ⟨i, hi, rfl⟩ := List.mem_map.1 hx
    have := h1 i (List.mem_range.1 hi)
    omega
  · unfold List.Nodup
    rw [List.pairwise_map]
    refine List.Pairwise.imp_of_mem (fun {a b} ha hb hab e => hab ?_) List.nodup_range
    have ha' := List.mem_range.1 ha
    have hb' := List.mem_range.1 hb
    have e1 := h1 a ha'
    have e2 := h1 b hb'
    exact h2 a b ha' hb' (by omega)
end Bx
theorem World.Row.lower {α : Type} {w : World} {base base' : Nat} {e : TypeId} {size : Nat} {f : α → List Value} {v : Value} {L : List α} (h : w.Row base e size f v L) (hb : base' ≤ base) : w.Row base' e size f v L := by
  refine ⟨h.len, h.own.1, ?_⟩
  rcases h.own.2 with h | ⟨g, cap, cur, rfl, h1, h2⟩
  · exact .inl h
  · exact .inr ⟨g, cap, cur, rfl, Nat.le_trans hb h1, h2⟩
end Go
namespace Go.Proofs.Ytenokcfpmfoekaa
open Go.RowKit Go.Bx
set_option maxRecDepth 100000 in
set_option maxHeartbeats 800000 in
theorem implSort_c (w : World) (g0 cap0 b0 : Nat) (rs : List R) (a : Nat) (rev mx : Bool) (ha : a ≤ 1) (hr : w.Row b0 25 4 boxV (.slice (some ⟨g0, 0, none⟩) rs.length cap0) rs) (hl : rs.length ≤ 64) :
    Calls Try.prog 30 #[.slice (some ⟨g0, 0, none⟩) rs.length cap0, .int .i64 a, .bool rev, .bool mx] w fun e w' => ∃ v g, e = .returned v ∧
      fE (qs (keyK a rev mx) rs.length (leafE rs rs.length) 0 rs.length) = (fun k => .int .i64 (g k)) ∧ w'.Row w.heap.size 3 1 intV v ((List.range rs.length).map g) ∧ Mix.Ex w w' := by
  go_enter Try.func30, Try.ntmps30
  go_wp2_with fail
  refine (implBoxes_c _ g0 cap0 b0 rs hr hl).mono ?_
  rintro e w1 ⟨g1, cap1, rfl, hr1, hx⟩
  go_wp2_with fail
  refine (ZZSort_c _ g1 cap1 _ rs a rev mx ha hr1 hl).mono ?_
  rintro e w2 ⟨v, g, rfl, hg, hr2, hx2⟩
  go_wp2_with fail
  go_ret
  exact ⟨v, g, rfl, hg, hr2.lower hx.below.size, hx.trans hx2⟩

end Go.Proofs.Ytenokcfpmfoekaa
