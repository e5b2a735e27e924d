/- The box around boxes, as the package reckons it. -/
import Derived.Test.YtenokcfpmfoekaaBoxesB
set_option linter.unusedSimpArgs false
set_option linter.unusedVariables false
namespace Go.Proofs.Ytenokcfpmfoekaa
open Go.RowKit Go.Bx

set_option maxRecDepth 100000 in
set_option maxHeartbeats 800000 in
theorem ZZBounds_c (w : World) (g0 cap0 b0 : Nat) (rs : List R) (hr : w.Row b0 47 4 boxV (.slice (some ⟨g0, 0, none⟩) rs.length cap0) rs) (hl : rs.length ≤ 64) :
    Calls Try.prog 42 #[.slice (some ⟨g0, 0, none⟩) rs.length cap0] w fun e w' => (∃ r, r = bndF (leafRc rs rs.length) (rs.length - 1) ∧ e = .returned (.agg #[.int .i64 r.x0, .int .i64 r.y0, .int .i64 r.x1, .int .i64 r.y1])) ∧ Mix.Ex w w' := by
  obtain ⟨B, hB⟩ : ∃ B, w.heap.size = B := ⟨_, rfl⟩
  go_enter Try.func42, Try.ntmps42
  go_wp2_with fail
  refine (zzLeaf_c _ _ g0 cap0 b0 rs ?_ (hr.ex (((Mix.Ex.refl _).alloc _).alloc _)) hl).mono ?_
  · go_simp
  rintro e w1 ⟨p, q, rfl, hN, hL, hpq, hp, hq, hx⟩
  have hm := ((rectAt_alloc w ⟨0, 0, 0, 0⟩ 47 hB).of_ex ((Mix.Ex.refl _).alloc _)).of_ex hx
  have ho := ((openAt_alloc w #[.int .i64 0, .int .i64 0, .int .i64 0, .int .i64 0] 47 hB).of_ex (by simp; omega) ((Mix.Ex.refl _).alloc _)).of_ex (by simp; omega) hx
  have hx := (((Mix.Ex.refl w).alloc _).alloc _).trans hx
  go_wp2_with fail
  refine (noderect_c _ p _ rs.length hN rfl hl).mono ?_
  rintro e w2 ⟨⟨r, hrr, rfl⟩, hx2⟩
  have HR := Lib.hid hrr
  clear hrr
  have hb1 := hm.lt
  have hm := hm.of_ex hx2
  have ho := ho.of_ex hb1 hx2
  have hx := hx.trans hx2
  clear hx2 hN hL hr
  go_wp2_with fail
  refine (boxOf_c _ _ 0 r (rectAt_alloc w2 r 67 rfl)).mono ?_
  rintro e w3 ⟨rfl, hx3⟩
  have hx3 := (((Mix.Ex.refl w2).alloc _)).trans hx3
  have hb2 := hm.lt
  obtain ⟨m0, m1, m2, m3⟩ := hm.of_ex hx3
  obtain ⟨o0, o1, o2, o3⟩ := ho.of_ex hb2 hx3
  have hx := hx.trans hx3
  simp only [Nat.zero_add] at m0 m1 m2 m3 o0 o1 o2 o3
  clear hx3 hm ho
  go_wp2_with fail
  refine bodyPost_ret (v := .agg #[.int .i64 r.x0, .int .i64 r.y0, .int .i64 r.x1, .int .i64 r.y1]) (by simp [results, Try.results42, go_sem, m0, m1, m2, m3]) rfl ⟨⟨_, HR.out, rfl⟩, ?_⟩
  exact (((hx.setCell (by simp [hB]) _).setCell (by simp [hB]) _).setCell (by simp [hB]) _).setCell (by simp [hB]) _

set_option maxRecDepth 100000 in
set_option maxHeartbeats 800000 in
theorem implAround_c (w : World) (g0 cap0 b0 : Nat) (rs : List R) (hr : w.Row b0 25 4 boxV (.slice (some ⟨g0, 0, none⟩) rs.length cap0) rs) (hl : rs.length ≤ 64) :
    Calls Try.prog 28 #[.slice (some ⟨g0, 0, none⟩) rs.length cap0] w fun e w' => (∃ r, r = bndF (leafRc rs rs.length) (rs.length - 1) ∧ e = .returned (.agg #[.int .i64 r.x0, .int .i64 r.y0, .int .i64 r.x1, .int .i64 r.y1])) ∧ Mix.Ex w w' := by
  obtain ⟨B, hB⟩ : ∃ B, w.heap.size = B := ⟨_, rfl⟩
  go_enter Try.func28, Try.ntmps28
  go_wp2_with fail
  refine (implBoxes_c _ g0 cap0 b0 rs (hr.ex ((Mix.Ex.refl _).alloc _)) hl).mono ?_
  rintro e w1 ⟨g1, cap1, rfl, hr1, hx⟩
  have hm := (rectAt_alloc w ⟨0, 0, 0, 0⟩ 25 hB).of_ex hx
  have ho := (openAt_alloc w #[.int .i64 0, .int .i64 0, .int .i64 0, .int .i64 0] 25 hB).of_ex (by simp; omega) hx
  have hx := ((Mix.Ex.refl w).alloc _).trans hx
  go_wp2_with fail
  refine (ZZBounds_c _ g1 cap1 _ rs hr1 hl).mono ?_
  rintro e w2 ⟨⟨r, hrr, rfl⟩, hx2⟩
  have HR := Lib.hid hrr
  clear hrr
  have hb1 := hm.lt
  obtain ⟨m0, m1, m2, m3⟩ := hm.of_ex hx2
  obtain ⟨o0, o1, o2, o3⟩ := ho.of_ex hb1 hx2
  have hx := hx.trans hx2
  simp only [Nat.zero_add] at m0 m1 m2 m3 o0 o1 o2 o3
  clear hx2 hm ho hr1 hr
  go_wp2_with fail
  refine bodyPost_ret (v := .agg #[.int .i64 r.x0, .int .i64 r.y0, .int .i64 r.x1, .int .i64 r.y1]) (by simp [results, Try.results28, go_sem, m0, m1, m2, m3]) rfl ⟨⟨_, HR.out, rfl⟩, ?_⟩
  exact (((hx.setCell (by simp [hB]) _).setCell (by simp [hB]) _).setCell (by simp [hB]) _).setCell (by simp [hB]) _
end Go.Proofs.Ytenokcfpmfoekaa
