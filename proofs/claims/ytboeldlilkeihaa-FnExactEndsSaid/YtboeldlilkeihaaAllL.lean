/- The law that a search in the bounds finds all: its walk. -/
import Derived.Test.YtboeldlilkeihaaSrchL
set_option linter.unusedSimpArgs false
set_option linter.unusedVariables false
namespace Go
theorem World.Row.one {α : Type} {w : World} {base : Nat} {e : TypeId} {size : Nat} {f : α → List Value} (hf : ∀ x, (f x).length = size) {g : Nat} {x : α} (hb : base ≤ g) (h : w.heap[g]? = some (.cells (f x).toArray e (0, 0))) : w.Row base e size f (.slice (some ⟨g, 0, none⟩) 1 1) [x] := by
  refine ⟨hf, by simp [hf], .inr ⟨g, 1, _, rfl, hb, h, Nat.le_refl _, by simp [maxLen], by simp [hf], ?_⟩⟩
  simp only [List.length_singleton, Nat.one_mul, List.flatMap_singleton]
  exact List.take_of_length_le (by rw [hf]; exact Nat.le_refl _)
end Go
namespace Go.Bx
/-- The step that puts in an item of zeros. -/
def st0 : Stp := ⟨0, (R0, 0), (R0, 0)⟩
theorem st0_ok : ∀ st ∈ [st0], st.ok := by
  intro st h
  simp only [List.mem_singleton] at h
  subst h
  simp [Stp.ok, st0, R.small, R.ok, R0]
theorem st0_len : (itT (runT tre0 [st0])).length = 1 := by
  have h := (grown_fair (S := [st0]) st0_ok (fun i st hi => by
    have : st = st0 := by
      have := List.mem_of_getElem? hi
      simpa using this
    subst this
    intro h
    simp [st0] at h)).length_eq
  rw [h]; rfl
theorem grown_len {S : List Stp} (hS : ∀ st ∈ S, st.ok) : (itT (runT tre0 S)).length ≤ S.length := by
  have h := (fine0.run hS).cnt
  rw [(grown_ok hS).cnt] at h
  omega
theorem hit_all {T : Tre} (hO : TreOk T) : (itT T).filter (hit T.rect) = itT T := by
  rw [List.filter_eq_self]
  intro x hx
  have hne : itT T ≠ [] := fun e => by rw [e] at hx; cases hx
  have hc := (hO.bd.2 hne).le (List.mem_map.2 ⟨x, hx, rfl⟩)
  have hk := (hO.items x hx).2
  rw [contains_iff] at hc
  unfold hit R.intersects
  unfold R.ok at hk
  simp
  omega
end Go.Bx
namespace Go.Proofs.Ytboeldlilkeihaa
open Go.RowKit Go.Bx
set_option maxRecDepth 100000 in
set_option maxHeartbeats 1600000 in
theorem searchAll_walk (w : World) (v : Value) (zs : List Int) (h : Ints16At w v zs) :
    Calls Try.prog 3 #[v] w fun e w' => e = .returned (.bool true) ∧ Mix.Ex w w' := by
  have h' := h
  obtain ⟨⟨o, cap0, rfl, hcells⟩, hle, hcap, hwf⟩ := h
  clear hcells hwf hcap
  go_enter Try.func3, Try.ntmps3
  go_wp2_with fail
  · go_ret
    exact ⟨rfl, Mix.Ex.refl _⟩
  refine (steps_c w _ zs h').mono ?_
  rintro e w1 ⟨g, cap, rfl, hr, hx⟩
  have hl := stepsOf_len zs
  have hok := stepsOf_ok h'
  generalize stepsOf zs = S at hr hl hok ⊢
  obtain ⟨n, hn⟩ : ∃ n, S.length = n := ⟨_, rfl⟩
  rw [hn] at hr ⊢
  have hgl := grown_len hok
  have hO := grown_ok hok
  have hil : (itT (Bx.runT tre0 S)).length ≤ 900000 := by omega
  have hB := implBounds_c w1 S hok (by omega) _ g cap n hn hr
  have hSr := fun W (hx : Mix.Ex w1 W) => implSearch_c W S hok (by omega) _ g cap n hn (hr.ex hx) hil (Bx.runT tre0 S).rect
  rw [hit_all hO] at hSr
  have hSc := fun W (hx : Mix.Ex w1 W) => implScan_c W S hok (by omega) _ g cap n hn (hr.ex hx) hil
  have HS := Lib.hid (fun W b1 b2 v1 v2 (h1 : World.Row W b1 35 5 itemV v1 (itT (Bx.runT tre0 S))) (h2 : World.Row W b2 35 5 itemV v2 (itT (Bx.runT tre0 S))) => same_c W b1 b2 v1 v2 _ _ h1 h2 hil (List.Perm.refl _))
  have HX := Lib.hid hx
  clear hx hr hO hil hgl
  generalize (Bx.runT tre0 S).rect = r at hB hSr
  generalize itT (Bx.runT tre0 S) = G at hSr hSc HS
  obtain ⟨m, hm⟩ : ∃ m, G.length = m := ⟨_, rfl⟩
  rw [hm] at hSr hSc
  go_wp2_with fail
  refine hB.mono ?_
  rintro e w2 ⟨r', rfl, rfl, hx2⟩
  go_wp2_with fail
  refine (hSr _ hx2).mono ?_
  rintro e w3 ⟨g3, c3, rfl, hr3, hx3⟩
  have hx13 := hx2.trans hx3
  go_wp2_with fail
  refine (hSc _ hx13).mono ?_
  rintro e w4 ⟨g4, c4, rfl, hr4, hx4⟩
  have hSm := HS.out w4 _ _ _ _ (hr3.ex hx4) hr4
  have hx14 := hx13.trans hx4
  clear hr3 hr4 hx2 hx3 hx4 hx13 hSr hSc hB
  go_wp2_with fail
  refine hSm.mono ?_
  rintro e w5 ⟨rfl, hx5⟩
  have hx15 := hx14.trans hx5
  have hxa := (Mix.Ex.refl w5).alloc (.cells (stepV st0).toArray 37)
  have hone : (w5.alloc (.cells (stepV st0).toArray 37)).Row 0 37 11 stepV (.slice (some ⟨w5.heap.size, 0, none⟩) 1 1) [st0] := World.Row.one stepV_len (Nat.zero_le _) (heap_alloc_new _ _)
  have hLn := implLen_c (w5.alloc (.cells (stepV st0).toArray 37)) [st0] st0_ok (by simp) 0 w5.heap.size 1 1 rfl hone
  rw [st0_len] at hLn
  clear hSm hone
  go_wp2_with fail
  refine hLn.mono ?_
  rintro e w6 ⟨rfl, hx6⟩
  go_wp2_with fail
  go_ret
  exact ⟨rfl, (HX.out.trans hx15).trans (hxa.trans hx6)⟩
end Go.Proofs.Ytboeldlilkeihaa
