/- The contract of a node's 'rect': the box around its boxes. -/
import Derived.Test.YtenokcfpmfoekaaNodeA
set_option linter.unusedSimpArgs false
set_option linter.unusedVariables false
namespace Go
open Go.Bx
theorem NodeAt.ex {w w' : World} {p : Nat} {N : Nd} (h : NodeAt w p N) (hx : Mix.Ex w w') : NodeAt w' p N := by
  obtain ⟨x, rfl⟩ := hx
  exact h.of_block (World.heap_ext w x p h.lt)
theorem ListAt.ex {w w' : World} {q : Nat} {T : TypeId} {f : Nat → Value} (h : ListAt w q T f) (hx : Mix.Ex w w') : ListAt w' q T f := by
  obtain ⟨x, rfl⟩ := hx
  exact h.of_block (World.heap_ext w x q h.lt)
theorem Mix.Ex.putN {a b : World} (h : Mix.Ex a b) {p : Nat} (hp : a.heap.size ≤ p) (N : Nd) : Mix.Ex a (b.putN p N) :=
  .of_below (h.below.trans ⟨rfl, rfl, rfl, by simp, fun k hk => by simp only [World.putN]; rw [Array.getElem?_setIfInBounds_ne (by omega)]⟩)
theorem Mix.Ex.putL {a b : World} (h : Mix.Ex a b) {q : Nat} (hq : a.heap.size ≤ q) (T : TypeId) (f : Nat → Value) : Mix.Ex a (b.putL q T f) :=
  .of_below (h.below.trans ⟨rfl, rfl, rfl, by simp, fun k hk => by simp only [World.putL]; rw [Array.getElem?_setIfInBounds_ne (by omega)]⟩)
theorem NodeAt.cell0 {w : World} {p : Nat} {N : Nd} (h : NodeAt w p N) : w.cell? ⟨p, 0, none⟩ = some (.int .u64 N.icow) := by have := h.lt; rw [← h.self]; exact World.cell_putN0 _ _ _ this
theorem NodeAt.cell1 {w : World} {p : Nat} {N : Nd} (h : NodeAt w p N) : w.cell? ⟨p, 1, none⟩ = some (.int .i8 (kindOf N.leaf)) := by have := h.lt; rw [← h.self]; exact World.cell_putN1 _ _ _ this
theorem NodeAt.cell2 {w : World} {p : Nat} {N : Nd} (h : NodeAt w p N) : w.cell? ⟨p, 2, none⟩ = some (.int .i16 N.cnt) := by have := h.lt; rw [← h.self]; exact World.cell_putN2 _ _ _ this
end Go
namespace Go.Proofs.Ytenokcfpmfoekaa
open Go.RowKit Go.Bx
theorem rectAt_alloc (w : World) (r : R) (T : TypeId) {B : Nat} (hB : w.heap.size = B) : RectAt (w.alloc (.cells #[.int .i64 r.x0, .int .i64 r.y0, .int .i64 r.x1, .int .i64 r.y1] T)) B 0 r := by
  subst hB
  refine ⟨?_, ?_, ?_, ?_⟩ <;> simp
theorem openAt_alloc (w : World) (cs : Array Value) (T : TypeId) {B : Nat} (hB : w.heap.size = B) : OpenAt (w.alloc (.cells cs T)) B 0 := by
  subst hB
  refine ⟨?_, ?_, ?_, ?_⟩ <;> simp
theorem rectAt_alloc_old {w : World} {b o : Nat} {r : R} (h : RectAt w b o r) (x : Obj) : RectAt (w.alloc x) b o r := h.of_ex ((Mix.Ex.refl _).alloc _)
theorem rectAt_setRect_other {w : World} {b o c q : Nat} {r s : R} (h : RectAt w b o r) (hne : b ≠ c) : RectAt (setRect w c q s) b o r := by
  obtain ⟨h0, h1, h2, h3⟩ := h
  unfold setRect
  refine ⟨?_, ?_, ?_, ?_⟩ <;> go_simp
theorem openAt_setRect {w : World} {b o c q : Nat} {s : R} (h : OpenAt w b o) : OpenAt (setRect w c q s) b o := by
  obtain ⟨h0, h1, h2, h3⟩ := h
  unfold setRect
  refine ⟨?_, ?_, ?_, ?_⟩ <;> go_simp
theorem OpenAt.of_dr {w : World} {b o : Nat} (h : OpenAt w b o) (n : Nat) : OpenAt (w.drewN n) b o := h
theorem openAt_alloc_old {w : World} {b o : Nat} (h : OpenAt w b o) (hb : b < w.heap.size) (x : Obj) : OpenAt (w.alloc x) b o := by
  obtain ⟨h0, h1, h2, h3⟩ := h
  refine ⟨?_, ?_, ?_, ?_⟩ <;> (rw [World.frozen?_alloc_past _ _ _ hb]; assumption)
theorem rectAt_node {w : World} {p : Nat} {N : Nd} (h : NodeAt w p N) {i : Nat} (hi : i < 64) : RectAt w p (3 + i * 4) (N.rc i) := by
  have hl := h.lt
  rw [← h.self]
  exact ⟨World.cell_rc0 _ _ _ _ hl hi, World.cell_rc1 _ _ _ _ hl hi, World.cell_rc2 _ _ _ _ hl hi, World.cell_rc3 _ _ _ _ hl hi⟩

set_option maxRecDepth 100000 in
set_option maxHeartbeats 1600000 in
theorem noderect_c (w : World) (p : Nat) (N : Nd) (n : Nat) (hN : NodeAt w p N) (hn : N.cnt = n) (h64 : n ≤ 64) :
    Calls Try.prog 59 #[.pointer (some ⟨p, 0, none⟩)] w fun e w' => (∃ r, r = bndF N.rc (n - 1) ∧ e = .returned (.agg #[.int .i64 r.x0, .int .i64 r.y0, .int .i64 r.x1, .int .i64 r.y1])) ∧ Mix.Ex w w' := by
  obtain ⟨icow, leaf, cnt, q, rc⟩ := N
  dsimp only at hn
  subst hn
  dsimp only
  have hp := hN.lt
  obtain ⟨B, hB⟩ : ∃ B, w.heap.size = B := ⟨_, rfl⟩
  rw [hB] at hp
  have r0 := rectAt_node hN (i := 0) (by omega)
  obtain ⟨k0, k1, k2, k3⟩ := r0
  simp only [Nat.zero_mul, Nat.add_zero, Nat.reduceAdd] at k0 k1 k2 k3
  go_enter Try.func59, Try.ntmps59
  go_wp2_with fail
  go_loopw [4] (fun i wr => ∃ k : Nat, 1 ≤ k ∧ k ≤ max n 1 ∧ i = .int .i64 k ∧ RectAt wr (B + 1) 0 (bndF rc (k - 1)) ∧ OpenAt wr (B + 1) 0 ∧ OpenAt wr B 0 ∧ RectAt wr B 0 ⟨0, 0, 0, 0⟩ ∧ Mix.Ex w wr) (fun i _ => n - (intOf i).toNat)
  case atStart =>
    exact ⟨1, by omega, by omega, rfl, rectAt_alloc _ (rc 0) _ (by simp [hB]), openAt_alloc _ _ _ (by simp [hB]), openAt_alloc_old (openAt_alloc _ _ _ hB) (by simp; omega) _, rectAt_alloc_old (rectAt_alloc _ ⟨0, 0, 0, 0⟩ _ hB) _, ((Mix.Ex.refl _).alloc _).alloc _⟩
  case round =>
    obtain ⟨k, hk1, hkn, rfl, hr, ho, ho0, hr0, hx⟩ := hrel
    have hN' := hN.ex hx
    have hc := hN'.cell2
    have hk64 : k ≤ 64 := by omega
    have hbs := hx.below.size
    obtain ⟨l0, l1, l2, l3⟩ := id hr
    obtain ⟨o0, o1, o2, o3⟩ := id ho0
    obtain ⟨m0, m1, m2, m3⟩ := id hr0
    simp only [Nat.zero_add] at l0 l1 l2 l3 o0 o1 o2 o3 m0 m1 m2 m3
    dsimp only at hc
    go_wp2_with fail
    · refine (expand_c _ (B + 1) 0 p (3 + k * 4) _ (rc k) hr (rectAt_node hN' (by omega)) (by omega) ho.1 ho.2.1 ho.2.2.1 ho.2.2.2).mono ?_
      rintro e w1 ⟨rfl, n1, rfl⟩
      have hlt : k < n := by assumption
      clear l0 l1 l2 l3 o0 o1 o2 o3 m0 m1 m2 m3 hc
      go_wp2_with fail
      go_roundw
      case rel =>
        refine ⟨k + 1, by omega, by omega, by go_num, ?_, ?_, ?_, ?_, ?_⟩
        · have : bndF rc (k + 1 - 1) = (bndF rc (k - 1)).expand (rc k) := by
            obtain ⟨j, rfl⟩ : ∃ j, k = j + 1 := ⟨k - 1, by omega⟩
            rfl
          rw [this]
          exact (RectAt.set hr _).of_dr _
        · exact (openAt_setRect ho).of_dr _
        · exact (openAt_setRect ho0).of_dr _
        · exact (rectAt_setRect_other hr0 (by omega)).of_dr _
        · exact (ex_setRect hx (by omega) _).drewN _
      case measure => simp [intOf]; omega
    have : k = max n 1 := by omega
    obtain ⟨r, hrr⟩ : ∃ r, bndF rc (k - 1) = r := ⟨_, rfl⟩
    rw [hrr]
    refine bodyPost_ret (v := .agg #[.int .i64 r.x0, .int .i64 r.y0, .int .i64 r.x1, .int .i64 r.y1]) (by simp [results, Try.results59, go_sem, m0, m1, m2, m3]) rfl ⟨⟨_, ?_, rfl⟩, ?_⟩
    · rw [← hrr, show k - 1 = n - 1 by omega]
    · exact (((hx.setCell (by simp [hB]) _).setCell (by simp [hB]) _).setCell (by simp [hB]) _).setCell (by simp [hB]) _
end Go.Proofs.Ytenokcfpmfoekaa
