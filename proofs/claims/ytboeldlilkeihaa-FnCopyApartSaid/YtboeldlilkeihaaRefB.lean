/- The reference: the steps of numbers, and whether they are fair. -/
import Derived.Test.YtboeldlilkeihaaLst
import Derived.Test.YtboeldlilkeihaaRefA
import Derived.Laws.BitsLemmas
import Derived.Lib.Hide
import Derived.OpenShut
set_option linter.unusedSimpArgs false
set_option linter.unusedVariables false
/- The steps of numbers. -/
namespace Go.Bx
/-- What a step does, by its first number. -/
def kind0 (z : Int) : Int := ([0, 0, 0, 0, 1, 1, 2, 3] : List Int).getD (bits .and .i64 z 7).toNat 0
def kindAt (z : Int) : Int := if kind0 z = 3 ∧ bits .and .i64 z 127 ≠ 7 then 0 else kind0 z
theorem and7 (z : Int) : 0 ≤ bits .and .i64 z 7 ∧ bits .and .i64 z 7 ≤ 7 := by
  have h : ((BitVec.ofInt IntKind.i64.bits z) &&& (BitVec.ofInt IntKind.i64.bits 7)).toNat ≤ 7 := by
    rw [BitVec.toNat_and]
    exact Nat.le_trans Nat.and_le_right (by decide)
  unfold bits
  dsimp only
  generalize ((BitVec.ofInt IntKind.i64.bits z) &&& (BitVec.ofInt IntKind.i64.bits 7)).toNat = m at h
  rw [IntKind.wrap_i64]
  omega
/-- The step whose numbers begin at a place. -/
def stpAt (zs : List Int) (a : Nat) : Stp := ⟨kindAt (zs.getD a 0), (R.of4 (zs.getD (a + 1) 0) (zs.getD (a + 2) 0) (zs.getD (a + 3) 0) (zs.getD (a + 4) 0), zs.getD (a + 5) 0), (R.of4 (zs.getD (a + 6) 0) (zs.getD (a + 7) 0) (zs.getD (a + 8) 0) (zs.getD (a + 9) 0), zs.getD (a + 10) 0)⟩
def stepsN (zs : List Int) (k : Nat) : List Stp := (List.range k).map fun i => stpAt zs (11 * i)
def stepsOf (zs : List Int) : List Stp := stepsN zs (min 400 (zs.length / 11))
theorem stepsN_succ (zs : List Int) (k : Nat) : stepsN zs (k + 1) = stepsN zs k ++ [stpAt zs (11 * k)] := by simp [stepsN, List.range_succ]
theorem stepsN_len (zs : List Int) (k : Nat) : (stepsN zs k).length = k := by simp [stepsN]
end Go.Bx
namespace Go.Proofs.Ytboeldlilkeihaa
open Go.RowKit Go.Bx
theorem info_step : (Try.prog.info? 37).map (fun i => (i.zero, i.size, i.bytes)) = some (some (.agg #[.int .i64 0, .int .i64 0, .int .i64 0, .int .i64 0, .int .i64 0, .int .i64 0, .int .i64 0, .int .i64 0, .int .i64 0, .int .i64 0, .int .i64 0]), 11, 88) := by kernel_rfl
/-- An argument of type []int16. -/
structure Ints16At (w : World) (v : Value) (zs : List Int) : Prop where
  form : ∃ o cap, v = .slice o zs.length cap ∧ (0 < zs.length → ∃ a, o = some a ∧ a.block < w.heap.size ∧ ∀ i, i < zs.length → w.cell? (a.add i) = some (.int .i16 (zs.getD i 0)))
  le : zs.length ≤ 70368744175616
  cap : ∀ o n cap, v = .slice o n cap → n ≤ cap
  wf : ∀ i, I16 (zs.getD i 0)
theorem cell_ext (w : World) (x : Mix.Xt) (a : Addr) (h : a.block < w.heap.size) : (w.ext x).cell? a = w.cell? a := by
  obtain ⟨b, o, s⟩ := a
  exact World.cell?_ext _ _ _ _ _ h
theorem add_succ (a : Addr) (i : Nat) : a.add (i + 1) = ⟨a.block, a.off + (i + 1), none⟩ := by simp [Addr.add]
end Go.Proofs.Ytboeldlilkeihaa
namespace Go
open Go.RowKit Go.Bx Go.Proofs.Ytboeldlilkeihaa
theorem Mix.Ex.obj {w w' : World} (h : Mix.Ex w w') {b : Nat} {o : Obj} (hb : w.heap[b]? = some o) : w'.heap[b]? = some o :=
  (h.below.block b (Array.getElem?_eq_some_iff.1 hb).1).trans hb
end Go
namespace Go.Proofs.Ytboeldlilkeihaa
open Go.RowKit Go.Bx
theorem frzOf {w : World} {b : Nat} {cs : Array Value} {T : TypeId} (h : w.heap[b]? = some (.cells cs T (0, 0))) (o : Nat) : w.frozen? ⟨b, o, none⟩ = false := by
  unfold World.frozen?; rw [h]; simp
theorem setCell_obj {w : World} {b : Nat} {cs : Array Value} {T : TypeId} {f : Nat × Nat} (h : w.heap[b]? = some (.cells cs T f)) (o : Nat) (v : Value) : (w.setCell ⟨b, o, none⟩ v).heap[b]? = some (.cells (cs.setIfInBounds o v) T f) := by
  simp [World.setCell, Array.getElem?_modify, h]
theorem setCell_ne {w : World} {b g : Nat} (o : Nat) (h : g ≠ b) (v : Value) (s : Option Nat) : (w.setCell ⟨b, o, s⟩ v).heap[g]? = w.heap[g]? := by
  simp [World.setCell, Array.getElem?_modify, Ne.symm h]
/-- A step laid into a block. -/
def putSt (w : World) (p : Nat) (st : Stp) : World := (((((((((((w.setCell ⟨p, 0, none⟩ (.int .i64 st.k)).setCell ⟨p, 1, none⟩ (.int .i64 st.o.1.x0)).setCell ⟨p, 2, none⟩ (.int .i64 st.o.1.y0)).setCell ⟨p, 3, none⟩ (.int .i64 st.o.1.x1)).setCell ⟨p, 4, none⟩ (.int .i64 st.o.1.y1)).setCell ⟨p, 5, none⟩ (.int .i64 st.o.2)).setCell ⟨p, 6, none⟩ (.int .i64 st.n.1.x0)).setCell ⟨p, 7, none⟩ (.int .i64 st.n.1.y0)).setCell ⟨p, 8, none⟩ (.int .i64 st.n.1.x1)).setCell ⟨p, 9, none⟩ (.int .i64 st.n.1.y1)).setCell ⟨p, 10, none⟩ (.int .i64 st.n.2))
theorem putSt_obj {w : World} {p : Nat} {T : TypeId} (h : w.heap[p]? = some (.cells #[.int .i64 0, .int .i64 0, .int .i64 0, .int .i64 0, .int .i64 0, .int .i64 0, .int .i64 0, .int .i64 0, .int .i64 0, .int .i64 0, .int .i64 0] T (0, 0))) (st : Stp) : (putSt w p st).heap[p]? = some (.cells (stepV st).toArray T (0, 0)) := by
  have h1 := setCell_obj h 0 (.int .i64 st.k)
  simp only [List.setIfInBounds_toArray, List.set_cons_zero, List.set_cons_succ] at h1
  have h2 := setCell_obj h1 1 (.int .i64 st.o.1.x0)
  simp only [List.setIfInBounds_toArray, List.set_cons_zero, List.set_cons_succ] at h2
  have h3 := setCell_obj h2 2 (.int .i64 st.o.1.y0)
  simp only [List.setIfInBounds_toArray, List.set_cons_zero, List.set_cons_succ] at h3
  have h4 := setCell_obj h3 3 (.int .i64 st.o.1.x1)
  simp only [List.setIfInBounds_toArray, List.set_cons_zero, List.set_cons_succ] at h4
  have h5 := setCell_obj h4 4 (.int .i64 st.o.1.y1)
  simp only [List.setIfInBounds_toArray, List.set_cons_zero, List.set_cons_succ] at h5
  have h6 := setCell_obj h5 5 (.int .i64 st.o.2)
  simp only [List.setIfInBounds_toArray, List.set_cons_zero, List.set_cons_succ] at h6
  have h7 := setCell_obj h6 6 (.int .i64 st.n.1.x0)
  simp only [List.setIfInBounds_toArray, List.set_cons_zero, List.set_cons_succ] at h7
  have h8 := setCell_obj h7 7 (.int .i64 st.n.1.y0)
  simp only [List.setIfInBounds_toArray, List.set_cons_zero, List.set_cons_succ] at h8
  have h9 := setCell_obj h8 8 (.int .i64 st.n.1.x1)
  simp only [List.setIfInBounds_toArray, List.set_cons_zero, List.set_cons_succ] at h9
  have h10 := setCell_obj h9 9 (.int .i64 st.n.1.y1)
  simp only [List.setIfInBounds_toArray, List.set_cons_zero, List.set_cons_succ] at h10
  have h11 := setCell_obj h10 10 (.int .i64 st.n.2)
  simp only [List.setIfInBounds_toArray, List.set_cons_zero, List.set_cons_succ] at h11
  exact h11
theorem putSt_ex {w0 w : World} {p : Nat} (h : Mix.Ex w0 w) (hp : w0.heap.size ≤ p) (st : Stp) : Mix.Ex w0 (putSt w p st) := (((((((((((h.setCell (p := ⟨p, 0, none⟩) hp _).setCell (p := ⟨p, 1, none⟩) hp _).setCell (p := ⟨p, 2, none⟩) hp _).setCell (p := ⟨p, 3, none⟩) hp _).setCell (p := ⟨p, 4, none⟩) hp _).setCell (p := ⟨p, 5, none⟩) hp _).setCell (p := ⟨p, 6, none⟩) hp _).setCell (p := ⟨p, 7, none⟩) hp _).setCell (p := ⟨p, 8, none⟩) hp _).setCell (p := ⟨p, 9, none⟩) hp _).setCell (p := ⟨p, 10, none⟩) hp _)
theorem add_off (a : Addr) (i k : Nat) : (⟨(a.add i).block, (a.add i).off + (k + 1), none⟩ : Addr) = a.add (i + (k + 1)) := by
  cases i with
  | zero => simp [Addr.add]
  | succ i => simp [Addr.add]; omega
theorem add_block (a : Addr) (i : Nat) : (a.add i).block = a.block := by unfold Addr.add; split <;> rfl
set_option maxRecDepth 100000 in
set_option maxHeartbeats 1600000 in
theorem steps_c (w : World) (v : Value) (zs : List Int) (h : Ints16At w v zs) :
    Calls Try.prog 17 #[v] w fun e w' => ∃ g cap, e = .returned (.slice (some ⟨g, 0, none⟩) (stepsOf zs).length cap) ∧
      w'.Row w.heap.size 37 11 stepV (.slice (some ⟨g, 0, none⟩) (stepsOf zs).length cap) (stepsOf zs) ∧ Mix.Ex w w' := by
  obtain ⟨⟨o, cap0, rfl, hcells⟩, hle, hcap, hwf⟩ := h
  have hcap := hcap _ _ _ rfl
  obtain ⟨i0, hi0, hz0, hz1, hz2⟩ := info_parts info_step
  obtain ⟨B, hB⟩ : ∃ B, w.heap.size = B := ⟨_, rfl⟩
  go_enter Try.func17, Try.ntmps17
  go_wp2_with fail
  go_loopw [3, 4] (fun v i wr => ∃ k at' g cap : Nat, k ≤ 400 ∧ at' = 11 * k ∧ 11 * k ≤ zs.length ∧ i = .int .i64 at' ∧ v = .slice (some ⟨g, 0, none⟩) k cap ∧
      wr.Row B 37 11 stepV v (stepsN zs k) ∧ Mix.Ex w wr) (fun _ i _ => zs.length - (intOf i).toNat)
  case atStart =>
    exact ⟨0, 0, B, 0, by omega, rfl, by omega, rfl, rfl, .made stepV_len B (Nat.le_refl _) (by rw [← hB]; exact heap_alloc_new w _), (Mix.Ex.refl _).alloc _⟩
  case round =>
    obtain ⟨k, at', g, cap, hk, hat, hk4, rfl, rfl, hrow, hx⟩ := hrel
    have hbs := hx.below.size
    have Hat := Lib.hid hat
    have hk4' : at' ≤ zs.length := by omega
    clear hat hk4
    by_cases hend : at' + 11 ≤ zs.length ∧ at' + 11 ≤ 4400
    case neg =>
      have e : stepsOf zs = stepsN zs k := by
        have := Hat.out
        unfold stepsOf; congr 1; omega
      by_cases h1 : at' + 11 ≤ zs.length
      · have h2 : ¬ at' + 11 ≤ 4400 := fun h => hend ⟨h1, h⟩
        clear hend
        go_wp2_with fail
        go_ret
        (first | rw [e, stepsN_len] | rw [stepsN_len])
        exact ⟨g, cap, rfl, by first | exact hrow | (rw [hB]; exact hrow), hx⟩
      · clear hend
        go_wp2_with fail
        go_ret
        (first | rw [e, stepsN_len] | rw [stepsN_len])
        exact ⟨g, cap, rfl, by first | exact hrow | (rw [hB]; exact hrow), hx⟩
    obtain ⟨hE1, hE2⟩ := hend
    obtain ⟨a, rfl, ha, hc⟩ := hcells (by omega)
    clear hcells
    go_upto_region 6 with (fail)
    have e0 : w.cell? (a.add at') = some (.int .i16 (zs.getD at' 0)) := hc _ (by omega)
    have e1 : w.cell? ⟨(a.add at').block, (a.add at').off + 1, none⟩ = some (.int .i16 (zs.getD (at' + 1) 0)) := by rw [add_off a at' 0]; exact hc _ (by omega)
    have e2 : w.cell? ⟨(a.add at').block, (a.add at').off + 2, none⟩ = some (.int .i16 (zs.getD (at' + 2) 0)) := by rw [add_off a at' 1]; exact hc _ (by omega)
    have e3 : w.cell? ⟨(a.add at').block, (a.add at').off + 3, none⟩ = some (.int .i16 (zs.getD (at' + 3) 0)) := by rw [add_off a at' 2]; exact hc _ (by omega)
    have e4 : w.cell? ⟨(a.add at').block, (a.add at').off + 4, none⟩ = some (.int .i16 (zs.getD (at' + 4) 0)) := by rw [add_off a at' 3]; exact hc _ (by omega)
    have e5 : w.cell? ⟨(a.add at').block, (a.add at').off + 5, none⟩ = some (.int .i16 (zs.getD (at' + 5) 0)) := by rw [add_off a at' 4]; exact hc _ (by omega)
    have e6 : w.cell? ⟨(a.add at').block, (a.add at').off + 6, none⟩ = some (.int .i16 (zs.getD (at' + 6) 0)) := by rw [add_off a at' 5]; exact hc _ (by omega)
    have e7 : w.cell? ⟨(a.add at').block, (a.add at').off + 7, none⟩ = some (.int .i16 (zs.getD (at' + 7) 0)) := by rw [add_off a at' 6]; exact hc _ (by omega)
    have e8 : w.cell? ⟨(a.add at').block, (a.add at').off + 8, none⟩ = some (.int .i16 (zs.getD (at' + 8) 0)) := by rw [add_off a at' 7]; exact hc _ (by omega)
    have e9 : w.cell? ⟨(a.add at').block, (a.add at').off + 9, none⟩ = some (.int .i16 (zs.getD (at' + 9) 0)) := by rw [add_off a at' 8]; exact hc _ (by omega)
    have e10 : w.cell? ⟨(a.add at').block, (a.add at').off + 10, none⟩ = some (.int .i16 (zs.getD (at' + 10) 0)) := by rw [add_off a at' 9]; exact hc _ (by omega)
    have hA : (a.add at').block < w.heap.size := by rw [add_block]; exact ha
    rw [show at' + 11 - at' = 11 by omega, show decide ((at' : Int) + 11 ≤ 4400) = true from decide_eq_true (by omega)]
    generalize a.add at' = A at e0 e1 e2 e3 e4 e5 e6 e7 e8 e9 e10 hA ⊢
    obtain ⟨z0, hz0'⟩ : ∃ z, zs.getD at' 0 = z := ⟨_, rfl⟩
    have w0 : I16 z0 := by rw [← hz0']; exact hwf _
    rw [hz0'] at e0
    have HZ0 := Lib.hid hz0'
    clear hz0'
    obtain ⟨z1, hz1'⟩ : ∃ z, zs.getD (at' + 1) 0 = z := ⟨_, rfl⟩
    have w1 : I16 z1 := by rw [← hz1']; exact hwf _
    rw [hz1'] at e1
    have HZ1 := Lib.hid hz1'
    clear hz1'
    obtain ⟨z2, hz2'⟩ : ∃ z, zs.getD (at' + 2) 0 = z := ⟨_, rfl⟩
    have w2 : I16 z2 := by rw [← hz2']; exact hwf _
    rw [hz2'] at e2
    have HZ2 := Lib.hid hz2'
    clear hz2'
    obtain ⟨z3, hz3'⟩ : ∃ z, zs.getD (at' + 3) 0 = z := ⟨_, rfl⟩
    have w3 : I16 z3 := by rw [← hz3']; exact hwf _
    rw [hz3'] at e3
    have HZ3 := Lib.hid hz3'
    clear hz3'
    obtain ⟨z4, hz4'⟩ : ∃ z, zs.getD (at' + 4) 0 = z := ⟨_, rfl⟩
    have w4 : I16 z4 := by rw [← hz4']; exact hwf _
    rw [hz4'] at e4
    have HZ4 := Lib.hid hz4'
    clear hz4'
    obtain ⟨z5, hz5'⟩ : ∃ z, zs.getD (at' + 5) 0 = z := ⟨_, rfl⟩
    have w5 : I16 z5 := by rw [← hz5']; exact hwf _
    rw [hz5'] at e5
    have HZ5 := Lib.hid hz5'
    clear hz5'
    obtain ⟨z6, hz6'⟩ : ∃ z, zs.getD (at' + 6) 0 = z := ⟨_, rfl⟩
    have w6 : I16 z6 := by rw [← hz6']; exact hwf _
    rw [hz6'] at e6
    have HZ6 := Lib.hid hz6'
    clear hz6'
    obtain ⟨z7, hz7'⟩ : ∃ z, zs.getD (at' + 7) 0 = z := ⟨_, rfl⟩
    have w7 : I16 z7 := by rw [← hz7']; exact hwf _
    rw [hz7'] at e7
    have HZ7 := Lib.hid hz7'
    clear hz7'
    obtain ⟨z8, hz8'⟩ : ∃ z, zs.getD (at' + 8) 0 = z := ⟨_, rfl⟩
    have w8 : I16 z8 := by rw [← hz8']; exact hwf _
    rw [hz8'] at e8
    have HZ8 := Lib.hid hz8'
    clear hz8'
    obtain ⟨z9, hz9'⟩ : ∃ z, zs.getD (at' + 9) 0 = z := ⟨_, rfl⟩
    have w9 : I16 z9 := by rw [← hz9']; exact hwf _
    rw [hz9'] at e9
    have HZ9 := Lib.hid hz9'
    clear hz9'
    obtain ⟨z10, hz10'⟩ : ∃ z, zs.getD (at' + 10) 0 = z := ⟨_, rfl⟩
    have w10 : I16 z10 := by rw [← hz10']; exact hwf _
    rw [hz10'] at e10
    have HZ10 := Lib.hid hz10'
    clear hz10'
    have f0 : w.cell? A = some (.int .i16 z0) ∧ w.cell? ⟨A.block, A.off + 1, none⟩ = some (.int .i16 z1) ∧ w.cell? ⟨A.block, A.off + 2, none⟩ = some (.int .i16 z2) ∧ w.cell? ⟨A.block, A.off + 3, none⟩ = some (.int .i16 z3) ∧ w.cell? ⟨A.block, A.off + 4, none⟩ = some (.int .i16 z4) ∧ w.cell? ⟨A.block, A.off + 5, none⟩ = some (.int .i16 z5) ∧ w.cell? ⟨A.block, A.off + 6, none⟩ = some (.int .i16 z6) ∧ w.cell? ⟨A.block, A.off + 7, none⟩ = some (.int .i16 z7) ∧ w.cell? ⟨A.block, A.off + 8, none⟩ = some (.int .i16 z8) ∧ w.cell? ⟨A.block, A.off + 9, none⟩ = some (.int .i16 z9) ∧ w.cell? ⟨A.block, A.off + 10, none⟩ = some (.int .i16 z10) := ⟨e0, e1, e2, e3, e4, e5, e6, e7, e8, e9, e10⟩
    clear e0 e1 e2 e3 e4 e5 e6 e7 e8 e9 e10
    have fx : ∀ W, Mix.Ex w W → W.cell? A = some (.int .i16 z0) ∧ W.cell? ⟨A.block, A.off + 1, none⟩ = some (.int .i16 z1) ∧ W.cell? ⟨A.block, A.off + 2, none⟩ = some (.int .i16 z2) ∧ W.cell? ⟨A.block, A.off + 3, none⟩ = some (.int .i16 z3) ∧ W.cell? ⟨A.block, A.off + 4, none⟩ = some (.int .i16 z4) ∧ W.cell? ⟨A.block, A.off + 5, none⟩ = some (.int .i16 z5) ∧ W.cell? ⟨A.block, A.off + 6, none⟩ = some (.int .i16 z6) ∧ W.cell? ⟨A.block, A.off + 7, none⟩ = some (.int .i16 z7) ∧ W.cell? ⟨A.block, A.off + 8, none⟩ = some (.int .i16 z8) ∧ W.cell? ⟨A.block, A.off + 9, none⟩ = some (.int .i16 z9) ∧ W.cell? ⟨A.block, A.off + 10, none⟩ = some (.int .i16 z10) := fun W h => by
      obtain ⟨f0, f1, f2, f3, f4, f5, f6, f7, f8, f9, f10⟩ := f0
      exact ⟨h.cell f0, h.cell f1, h.cell f2, h.cell f3, h.cell f4, h.cell f5, h.cell f6, h.cell f7, h.cell f8, h.cell f9, h.cell f10⟩
    have FX := Lib.hid fx
    clear f0 fx hc ha hwf
    have wr0 : IntKind.i64.wrap z0 = z0 := by unfold I16 at w0; rw [IntKind.wrap_i64]; omega
    have wr5 : IntKind.i64.wrap z5 = z5 := by unfold I16 at w5; rw [IntKind.wrap_i64]; omega
    have wr10 : IntKind.i64.wrap z10 = z10 := by unfold I16 at w10; rw [IntKind.wrap_i64]; omega
    refine wp_region_K (fun W => W.cell? A = some (.int .i16 z0) ∧ W.cell? ⟨A.block, A.off + 1, none⟩ = some (.int .i16 z1) ∧ W.cell? ⟨A.block, A.off + 2, none⟩ = some (.int .i16 z2) ∧ W.cell? ⟨A.block, A.off + 3, none⟩ = some (.int .i16 z3) ∧ W.cell? ⟨A.block, A.off + 4, none⟩ = some (.int .i16 z4) ∧ W.cell? ⟨A.block, A.off + 5, none⟩ = some (.int .i16 z5) ∧ W.cell? ⟨A.block, A.off + 6, none⟩ = some (.int .i16 z6) ∧ W.cell? ⟨A.block, A.off + 7, none⟩ = some (.int .i16 z7) ∧ W.cell? ⟨A.block, A.off + 8, none⟩ = some (.int .i16 z8) ∧ W.cell? ⟨A.block, A.off + 9, none⟩ = some (.int .i16 z9) ∧ W.cell? ⟨A.block, A.off + 10, none⟩ = some (.int .i16 z10)) 46 (by kernel_rfl) ?_
    change wpAnyK _ _ _ _ _ 47 (Array.replicate 47 false) _ _
    have HC := FX.out _ (hx.drewN 1)
    (refine wpAnyK_take (i := 1) (oi := ?_) (v := ?_) ?_ ?_ ?_ ?_ ?_ ?_ ?_ ?_ ?_; rotate_left 2; (focus (simp only [List.getElem?_toArray, List.getElem?_cons_zero, List.getElem?_cons_succ]; rfl)); (focus kernel_rfl); (focus kernel_rfl); (focus kernel_rfl); (focus kernel_rfl); (focus exact fun _ _ _ h => h); (focus (refine Or.inl ⟨by rfl, ?_⟩; intro W hW; (try dsimp only at hW); go_simp; try with_reducible rfl)); (focus exact HC); (try simp only [Act.put, List.setIfInBounds_toArray, List.set_cons_zero, List.set_cons_succ]))
    (refine wpAnyK_take (i := 2) (oi := ?_) (v := ?_) ?_ ?_ ?_ ?_ ?_ ?_ ?_ ?_ ?_; rotate_left 2; (focus (simp only [List.getElem?_toArray, List.getElem?_cons_zero, List.getElem?_cons_succ]; rfl)); (focus kernel_rfl); (focus kernel_rfl); (focus kernel_rfl); (focus kernel_rfl); (focus exact fun _ _ _ h => h); (focus (refine Or.inl ⟨by rfl, ?_⟩; intro W hW; (try dsimp only at hW); go_simp; try with_reducible rfl)); (focus exact HC); (try simp only [Act.put, List.setIfInBounds_toArray, List.set_cons_zero, List.set_cons_succ]))
    (refine wpAnyK_take (i := 3) (oi := ?_) (v := ?_) ?_ ?_ ?_ ?_ ?_ ?_ ?_ ?_ ?_; rotate_left 2; (focus (simp only [List.getElem?_toArray, List.getElem?_cons_zero, List.getElem?_cons_succ]; rfl)); (focus kernel_rfl); (focus kernel_rfl); (focus kernel_rfl); (focus kernel_rfl); (focus exact fun _ _ _ h => h); (focus (refine Or.inl ⟨by rfl, ?_⟩; intro W hW; (try dsimp only at hW); go_simp; try with_reducible rfl)); (focus exact HC); (try simp only [Act.put, List.setIfInBounds_toArray, List.set_cons_zero, List.set_cons_succ]))
    (refine wpAnyK_take (i := 4) (oi := ?_) (v := ?_) ?_ ?_ ?_ ?_ ?_ ?_ ?_ ?_ ?_; rotate_left 2; (focus (simp only [List.getElem?_toArray, List.getElem?_cons_zero, List.getElem?_cons_succ]; rfl)); (focus kernel_rfl); (focus kernel_rfl); (focus kernel_rfl); (focus kernel_rfl); (focus exact fun _ _ _ h => h); (focus (refine Or.inl ⟨by rfl, ?_⟩; intro W hW; (try dsimp only at hW); go_simp; try with_reducible rfl)); (focus exact HC); (try simp only [Act.put, List.setIfInBounds_toArray, List.set_cons_zero, List.set_cons_succ]))
    (refine wpAnyK_take (i := 5) (oi := ?_) (v := ?_) ?_ ?_ ?_ ?_ ?_ ?_ ?_ ?_ ?_; rotate_left 2; (focus (simp only [List.getElem?_toArray, List.getElem?_cons_zero, List.getElem?_cons_succ]; rfl)); (focus kernel_rfl); (focus kernel_rfl); (focus kernel_rfl); (focus kernel_rfl); (focus exact fun _ _ _ h => h); (focus (refine Or.inl ⟨by rfl, ?_⟩; intro W hW; (try dsimp only at hW); go_simp; try with_reducible rfl)); (focus exact HC); (try simp only [Act.put, List.setIfInBounds_toArray, List.set_cons_zero, List.set_cons_succ]))
    (refine wpAnyK_take (i := 8) (oi := ?_) (v := ?_) ?_ ?_ ?_ ?_ ?_ ?_ ?_ ?_ ?_; rotate_left 2; (focus (simp only [List.getElem?_toArray, List.getElem?_cons_zero, List.getElem?_cons_succ]; rfl)); (focus kernel_rfl); (focus kernel_rfl); (focus kernel_rfl); (focus kernel_rfl); (focus exact fun _ _ _ h => h); (focus (refine Or.inl ⟨by rfl, ?_⟩; intro W hW; (try dsimp only at hW); go_simp; try with_reducible rfl)); (focus exact HC); (try simp only [Act.put, List.setIfInBounds_toArray, List.set_cons_zero, List.set_cons_succ]))
    (refine wpAnyK_take (i := 9) (oi := ?_) (v := ?_) ?_ ?_ ?_ ?_ ?_ ?_ ?_ ?_ ?_; rotate_left 2; (focus (simp only [List.getElem?_toArray, List.getElem?_cons_zero, List.getElem?_cons_succ]; rfl)); (focus kernel_rfl); (focus kernel_rfl); (focus kernel_rfl); (focus kernel_rfl); (focus exact fun _ _ _ h => h); (focus (refine Or.inl ⟨by rfl, ?_⟩; intro W hW; (try dsimp only at hW); go_simp; try with_reducible rfl)); (focus exact HC); (try simp only [Act.put, List.setIfInBounds_toArray, List.set_cons_zero, List.set_cons_succ]))
    (refine wpAnyK_take (i := 10) (oi := ?_) (v := ?_) ?_ ?_ ?_ ?_ ?_ ?_ ?_ ?_ ?_; rotate_left 2; (focus (simp only [List.getElem?_toArray, List.getElem?_cons_zero, List.getElem?_cons_succ]; rfl)); (focus kernel_rfl); (focus kernel_rfl); (focus kernel_rfl); (focus kernel_rfl); (focus exact fun _ _ _ h => h); (focus (refine Or.inl ⟨by rfl, ?_⟩; intro W hW; (try dsimp only at hW); go_simp; try with_reducible rfl)); (focus exact HC); (try simp only [Act.put, List.setIfInBounds_toArray, List.set_cons_zero, List.set_cons_succ]))
    (refine wpAnyK_take (i := 11) (oi := ?_) (v := ?_) ?_ ?_ ?_ ?_ ?_ ?_ ?_ ?_ ?_; rotate_left 2; (focus (simp only [List.getElem?_toArray, List.getElem?_cons_zero, List.getElem?_cons_succ]; rfl)); (focus kernel_rfl); (focus kernel_rfl); (focus kernel_rfl); (focus kernel_rfl); (focus exact fun _ _ _ h => h); (focus (refine Or.inl ⟨by rfl, ?_⟩; intro W hW; (try dsimp only at hW); go_simp; try with_reducible rfl)); (focus exact HC); (try simp only [Act.put, List.setIfInBounds_toArray, List.set_cons_zero, List.set_cons_succ]))
    (refine wpAnyK_take (i := 12) (oi := ?_) (v := ?_) ?_ ?_ ?_ ?_ ?_ ?_ ?_ ?_ ?_; rotate_left 2; (focus (simp only [List.getElem?_toArray, List.getElem?_cons_zero, List.getElem?_cons_succ]; rfl)); (focus kernel_rfl); (focus kernel_rfl); (focus kernel_rfl); (focus kernel_rfl); (focus exact fun _ _ _ h => h); (focus (refine Or.inl ⟨by rfl, ?_⟩; intro W hW; (try dsimp only at hW); go_simp; try with_reducible rfl)); (focus exact HC); (try simp only [Act.put, List.setIfInBounds_toArray, List.set_cons_zero, List.set_cons_succ]))
    (refine wpAnyK_take (i := 13) (oi := ?_) (v := ?_) ?_ ?_ ?_ ?_ ?_ ?_ ?_ ?_ ?_; rotate_left 2; (focus (simp only [List.getElem?_toArray, List.getElem?_cons_zero, List.getElem?_cons_succ]; rfl)); (focus kernel_rfl); (focus kernel_rfl); (focus kernel_rfl); (focus kernel_rfl); (focus exact fun _ _ _ h => h); (focus (refine Or.inl ⟨by rfl, ?_⟩; intro W hW; (try dsimp only at hW); go_simp; try with_reducible rfl)); (focus exact HC); (try simp only [Act.put, List.setIfInBounds_toArray, List.set_cons_zero, List.set_cons_succ]))
    (refine wpAnyK_take (i := 14) (oi := ?_) (v := ?_) ?_ ?_ ?_ ?_ ?_ ?_ ?_ ?_ ?_; rotate_left 2; (focus (simp only [List.getElem?_toArray, List.getElem?_cons_zero, List.getElem?_cons_succ]; rfl)); (focus kernel_rfl); (focus kernel_rfl); (focus kernel_rfl); (focus kernel_rfl); (focus exact fun _ _ _ h => h); (focus (refine Or.inl ⟨by rfl, ?_⟩; intro W hW; (try dsimp only at hW); go_simp; try with_reducible rfl)); (focus exact HC); (try simp only [Act.put, List.setIfInBounds_toArray, List.set_cons_zero, List.set_cons_succ]))
    (refine wpAnyK_take (i := 15) (oi := ?_) (v := ?_) ?_ ?_ ?_ ?_ ?_ ?_ ?_ ?_ ?_; rotate_left 2; (focus (simp only [List.getElem?_toArray, List.getElem?_cons_zero, List.getElem?_cons_succ]; rfl)); (focus kernel_rfl); (focus kernel_rfl); (focus kernel_rfl); (focus kernel_rfl); (focus exact fun _ _ _ h => h); (focus (refine Or.inl ⟨by rfl, ?_⟩; intro W hW; (try dsimp only at hW); go_simp; try with_reducible rfl)); (focus exact HC); (try simp only [Act.put, List.setIfInBounds_toArray, List.set_cons_zero, List.set_cons_succ]))
    (refine wpAnyK_take (i := 16) (oi := ?_) (v := ?_) ?_ ?_ ?_ ?_ ?_ ?_ ?_ ?_ ?_; rotate_left 2; (focus (simp only [List.getElem?_toArray, List.getElem?_cons_zero, List.getElem?_cons_succ]; rfl)); (focus kernel_rfl); (focus kernel_rfl); (focus kernel_rfl); (focus kernel_rfl); (focus exact fun _ _ _ h => h); (focus (refine Or.inl ⟨by rfl, ?_⟩; intro W hW; (try dsimp only at hW); go_simp; try with_reducible rfl)); (focus exact HC); (try simp only [Act.put, List.setIfInBounds_toArray, List.set_cons_zero, List.set_cons_succ]))
    (refine wpAnyK_take (i := 17) (oi := ?_) (v := ?_) ?_ ?_ ?_ ?_ ?_ ?_ ?_ ?_ ?_; rotate_left 2; (focus (simp only [List.getElem?_toArray, List.getElem?_cons_zero, List.getElem?_cons_succ]; rfl)); (focus kernel_rfl); (focus kernel_rfl); (focus kernel_rfl); (focus kernel_rfl); (focus exact fun _ _ _ h => h); (focus (refine Or.inl ⟨by rfl, ?_⟩; intro W hW; (try dsimp only at hW); go_simp; try with_reducible rfl)); (focus exact HC); (try simp only [Act.put, List.setIfInBounds_toArray, List.set_cons_zero, List.set_cons_succ]))
    (refine wpAnyK_take (i := 18) (oi := ?_) (v := ?_) ?_ ?_ ?_ ?_ ?_ ?_ ?_ ?_ ?_; rotate_left 2; (focus (simp only [List.getElem?_toArray, List.getElem?_cons_zero, List.getElem?_cons_succ]; rfl)); (focus kernel_rfl); (focus kernel_rfl); (focus kernel_rfl); (focus kernel_rfl); (focus exact fun _ _ _ h => h); (focus (refine Or.inl ⟨by rfl, ?_⟩; intro W hW; (try dsimp only at hW); go_simp; try with_reducible rfl)); (focus exact HC); (try simp only [Act.put, List.setIfInBounds_toArray, List.set_cons_zero, List.set_cons_succ]))
    (refine wpAnyK_take (i := 19) (oi := ?_) (v := ?_) ?_ ?_ ?_ ?_ ?_ ?_ ?_ ?_ ?_; rotate_left 2; (focus (simp only [List.getElem?_toArray, List.getElem?_cons_zero, List.getElem?_cons_succ]; rfl)); (focus kernel_rfl); (focus kernel_rfl); (focus kernel_rfl); (focus kernel_rfl); (focus exact fun _ _ _ h => h); (focus (refine Or.inl ⟨by rfl, ?_⟩; intro W hW; (try dsimp only at hW); go_simp; try with_reducible rfl)); (focus exact HC); (try simp only [Act.put, List.setIfInBounds_toArray, List.set_cons_zero, List.set_cons_succ]))
    (refine wpAnyK_take (i := 21) (oi := ?_) (v := ?_) ?_ ?_ ?_ ?_ ?_ ?_ ?_ ?_ ?_; rotate_left 2; (focus (simp only [List.getElem?_toArray, List.getElem?_cons_zero, List.getElem?_cons_succ]; rfl)); (focus kernel_rfl); (focus kernel_rfl); (focus kernel_rfl); (focus kernel_rfl); (focus exact fun _ _ _ h => h); (focus (refine Or.inl ⟨by rfl, ?_⟩; intro W hW; (try dsimp only at hW); go_simp; try with_reducible rfl)); (focus exact HC); (try simp only [Act.put, List.setIfInBounds_toArray, List.set_cons_zero, List.set_cons_succ]))
    (refine wpAnyK_take (i := 22) (oi := ?_) (v := ?_) ?_ ?_ ?_ ?_ ?_ ?_ ?_ ?_ ?_; rotate_left 2; (focus (simp only [List.getElem?_toArray, List.getElem?_cons_zero, List.getElem?_cons_succ]; rfl)); (focus kernel_rfl); (focus kernel_rfl); (focus kernel_rfl); (focus kernel_rfl); (focus exact fun _ _ _ h => h); (focus (refine Or.inl ⟨by rfl, ?_⟩; intro W hW; (try dsimp only at hW); go_simp; try with_reducible rfl)); (focus exact HC); (try simp only [Act.put, List.setIfInBounds_toArray, List.set_cons_zero, List.set_cons_succ]))
    (refine wpAnyK_take (i := 23) (oi := ?_) (v := ?_) ?_ ?_ ?_ ?_ ?_ ?_ ?_ ?_ ?_; rotate_left 2; (focus (simp only [List.getElem?_toArray, List.getElem?_cons_zero, List.getElem?_cons_succ]; rfl)); (focus kernel_rfl); (focus kernel_rfl); (focus kernel_rfl); (focus kernel_rfl); (focus exact fun _ _ _ h => h); (focus (refine Or.inl ⟨by rfl, ?_⟩; intro W hW; (try dsimp only at hW); go_simp; try with_reducible rfl)); (focus exact HC); (try simp only [Act.put, List.setIfInBounds_toArray, List.set_cons_zero, List.set_cons_succ]))
    (refine wpAnyK_take (i := 24) (oi := ?_) (v := ?_) ?_ ?_ ?_ ?_ ?_ ?_ ?_ ?_ ?_; rotate_left 2; (focus (simp only [List.getElem?_toArray, List.getElem?_cons_zero, List.getElem?_cons_succ]; rfl)); (focus kernel_rfl); (focus kernel_rfl); (focus kernel_rfl); (focus kernel_rfl); (focus exact fun _ _ _ h => h); (focus (refine Or.inl ⟨by rfl, ?_⟩; intro W hW; (try dsimp only at hW); go_simp; try with_reducible rfl)); (focus exact HC); (try simp only [Act.put, List.setIfInBounds_toArray, List.set_cons_zero, List.set_cons_succ]))
    (refine wpAnyK_take (i := 26) (oi := ?_) (v := ?_) ?_ ?_ ?_ ?_ ?_ ?_ ?_ ?_ ?_; rotate_left 2; (focus (simp only [List.getElem?_toArray, List.getElem?_cons_zero, List.getElem?_cons_succ]; rfl)); (focus kernel_rfl); (focus kernel_rfl); (focus kernel_rfl); (focus kernel_rfl); (focus exact fun _ _ _ h => h); (focus (refine Or.inl ⟨by rfl, ?_⟩; intro W hW; (try dsimp only at hW); go_simp; try with_reducible rfl)); (focus exact HC); (try simp only [Act.put, List.setIfInBounds_toArray, List.set_cons_zero, List.set_cons_succ]))
    (refine wpAnyK_take (i := 27) (oi := ?_) (v := ?_) ?_ ?_ ?_ ?_ ?_ ?_ ?_ ?_ ?_; rotate_left 2; (focus (simp only [List.getElem?_toArray, List.getElem?_cons_zero, List.getElem?_cons_succ]; rfl)); (focus kernel_rfl); (focus kernel_rfl); (focus kernel_rfl); (focus kernel_rfl); (focus exact fun _ _ _ h => h); (focus (refine Or.inl ⟨by rfl, ?_⟩; intro W hW; (try dsimp only at hW); go_simp; try with_reducible rfl)); (focus exact HC); (try simp only [Act.put, List.setIfInBounds_toArray, List.set_cons_zero, List.set_cons_succ]))
    (refine wpAnyK_take (i := 28) (oi := ?_) (v := ?_) ?_ ?_ ?_ ?_ ?_ ?_ ?_ ?_ ?_; rotate_left 2; (focus (simp only [List.getElem?_toArray, List.getElem?_cons_zero, List.getElem?_cons_succ]; rfl)); (focus kernel_rfl); (focus kernel_rfl); (focus kernel_rfl); (focus kernel_rfl); (focus exact fun _ _ _ h => h); (focus (refine Or.inl ⟨by rfl, ?_⟩; intro W hW; (try dsimp only at hW); go_simp; try with_reducible rfl)); (focus exact HC); (try simp only [Act.put, List.setIfInBounds_toArray, List.set_cons_zero, List.set_cons_succ]))
    (refine wpAnyK_take (i := 29) (oi := ?_) (v := ?_) ?_ ?_ ?_ ?_ ?_ ?_ ?_ ?_ ?_; rotate_left 2; (focus (simp only [List.getElem?_toArray, List.getElem?_cons_zero, List.getElem?_cons_succ]; rfl)); (focus kernel_rfl); (focus kernel_rfl); (focus kernel_rfl); (focus kernel_rfl); (focus exact fun _ _ _ h => h); (focus (refine Or.inl ⟨by rfl, ?_⟩; intro W hW; (try dsimp only at hW); go_simp; try with_reducible rfl)); (focus exact HC); (try simp only [Act.put, List.setIfInBounds_toArray, List.set_cons_zero, List.set_cons_succ]))
    (refine wpAnyK_take (i := 30) (oi := ?_) (v := ?_) ?_ ?_ ?_ ?_ ?_ ?_ ?_ ?_ ?_; rotate_left 2; (focus (simp only [List.getElem?_toArray, List.getElem?_cons_zero, List.getElem?_cons_succ]; rfl)); (focus kernel_rfl); (focus kernel_rfl); (focus kernel_rfl); (focus kernel_rfl); (focus exact fun _ _ _ h => h); (focus (refine Or.inl ⟨by rfl, ?_⟩; intro W hW; (try dsimp only at hW); go_simp; try with_reducible rfl)); (focus exact HC); (try simp only [Act.put, List.setIfInBounds_toArray, List.set_cons_zero, List.set_cons_succ]))
    (refine wpAnyK_take (i := 31) (oi := ?_) (v := ?_) ?_ ?_ ?_ ?_ ?_ ?_ ?_ ?_ ?_; rotate_left 2; (focus (simp only [List.getElem?_toArray, List.getElem?_cons_zero, List.getElem?_cons_succ]; rfl)); (focus kernel_rfl); (focus kernel_rfl); (focus kernel_rfl); (focus kernel_rfl); (focus exact fun _ _ _ h => h); (focus (refine Or.inl ⟨by rfl, ?_⟩; intro W hW; (try dsimp only at hW); go_simp; try with_reducible rfl)); (focus exact HC); (try simp only [Act.put, List.setIfInBounds_toArray, List.set_cons_zero, List.set_cons_succ]))
    (refine wpAnyK_take (i := 32) (oi := ?_) (v := ?_) ?_ ?_ ?_ ?_ ?_ ?_ ?_ ?_ ?_; rotate_left 2; (focus (simp only [List.getElem?_toArray, List.getElem?_cons_zero, List.getElem?_cons_succ]; rfl)); (focus kernel_rfl); (focus kernel_rfl); (focus kernel_rfl); (focus kernel_rfl); (focus exact fun _ _ _ h => h); (focus (refine Or.inl ⟨by rfl, ?_⟩; intro W hW; (try dsimp only at hW); go_simp; try with_reducible rfl)); (focus exact HC); (try simp only [Act.put, List.setIfInBounds_toArray, List.set_cons_zero, List.set_cons_succ]))
    (refine wpAnyK_take (i := 33) (oi := ?_) (v := ?_) ?_ ?_ ?_ ?_ ?_ ?_ ?_ ?_ ?_; rotate_left 2; (focus (simp only [List.getElem?_toArray, List.getElem?_cons_zero, List.getElem?_cons_succ]; rfl)); (focus kernel_rfl); (focus kernel_rfl); (focus kernel_rfl); (focus kernel_rfl); (focus exact fun _ _ _ h => h); (focus (refine Or.inl ⟨by rfl, ?_⟩; intro W hW; (try dsimp only at hW); go_simp; try with_reducible rfl)); (focus exact HC); (try simp only [Act.put, List.setIfInBounds_toArray, List.set_cons_zero, List.set_cons_succ]))
    (refine wpAnyK_take (i := 34) (oi := ?_) (v := ?_) ?_ ?_ ?_ ?_ ?_ ?_ ?_ ?_ ?_; rotate_left 2; (focus (simp only [List.getElem?_toArray, List.getElem?_cons_zero, List.getElem?_cons_succ]; rfl)); (focus kernel_rfl); (focus kernel_rfl); (focus kernel_rfl); (focus kernel_rfl); (focus exact fun _ _ _ h => h); (focus (refine Or.inl ⟨by rfl, ?_⟩; intro W hW; (try dsimp only at hW); go_simp; try with_reducible rfl)); (focus exact HC); (try simp only [Act.put, List.setIfInBounds_toArray, List.set_cons_zero, List.set_cons_succ]))
    (refine wpAnyK_take (i := 35) (oi := ?_) (v := ?_) ?_ ?_ ?_ ?_ ?_ ?_ ?_ ?_ ?_; rotate_left 2; (focus (simp only [List.getElem?_toArray, List.getElem?_cons_zero, List.getElem?_cons_succ]; rfl)); (focus kernel_rfl); (focus kernel_rfl); (focus kernel_rfl); (focus kernel_rfl); (focus exact fun _ _ _ h => h); (focus (refine Or.inl ⟨by rfl, ?_⟩; intro W hW; (try dsimp only at hW); go_simp; try with_reducible rfl)); (focus exact HC); (try simp only [Act.put, List.setIfInBounds_toArray, List.set_cons_zero, List.set_cons_succ]))
    (refine wpAnyK_take (i := 36) (oi := ?_) (v := ?_) ?_ ?_ ?_ ?_ ?_ ?_ ?_ ?_ ?_; rotate_left 2; (focus (simp only [List.getElem?_toArray, List.getElem?_cons_zero, List.getElem?_cons_succ]; rfl)); (focus kernel_rfl); (focus kernel_rfl); (focus kernel_rfl); (focus kernel_rfl); (focus exact fun _ _ _ h => h); (focus (refine Or.inl ⟨by rfl, ?_⟩; intro W hW; (try dsimp only at hW); go_simp; try with_reducible rfl)); (focus exact HC); (try simp only [Act.put, List.setIfInBounds_toArray, List.set_cons_zero, List.set_cons_succ]))
    (refine wpAnyK_take (i := 37) (oi := ?_) (v := ?_) ?_ ?_ ?_ ?_ ?_ ?_ ?_ ?_ ?_; rotate_left 2; (focus (simp only [List.getElem?_toArray, List.getElem?_cons_zero, List.getElem?_cons_succ]; rfl)); (focus kernel_rfl); (focus kernel_rfl); (focus kernel_rfl); (focus kernel_rfl); (focus exact fun _ _ _ h => h); (focus (refine Or.inl ⟨by rfl, ?_⟩; intro W hW; (try dsimp only at hW); go_simp; try with_reducible rfl)); (focus exact HC); (try simp only [Act.put, List.setIfInBounds_toArray, List.set_cons_zero, List.set_cons_succ]))
    (refine wpAnyK_take (i := 39) (oi := ?_) (v := ?_) ?_ ?_ ?_ ?_ ?_ ?_ ?_ ?_ ?_; rotate_left 2; (focus (simp only [List.getElem?_toArray, List.getElem?_cons_zero, List.getElem?_cons_succ]; rfl)); (focus kernel_rfl); (focus kernel_rfl); (focus kernel_rfl); (focus kernel_rfl); (focus exact fun _ _ _ h => h); (focus (refine Or.inl ⟨by rfl, ?_⟩; intro W hW; (try dsimp only at hW); go_simp; try with_reducible rfl)); (focus exact HC); (try simp only [Act.put, List.setIfInBounds_toArray, List.set_cons_zero, List.set_cons_succ]))
    (refine wpAnyK_take (i := 40) (oi := ?_) (v := ?_) ?_ ?_ ?_ ?_ ?_ ?_ ?_ ?_ ?_; rotate_left 2; (focus (simp only [List.getElem?_toArray, List.getElem?_cons_zero, List.getElem?_cons_succ]; rfl)); (focus kernel_rfl); (focus kernel_rfl); (focus kernel_rfl); (focus kernel_rfl); (focus exact fun _ _ _ h => h); (focus (refine Or.inl ⟨by rfl, ?_⟩; intro W hW; (try dsimp only at hW); go_simp; try with_reducible rfl)); (focus exact HC); (try simp only [Act.put, List.setIfInBounds_toArray, List.set_cons_zero, List.set_cons_succ]))
    (refine wpAnyK_take (i := 41) (oi := ?_) (v := ?_) ?_ ?_ ?_ ?_ ?_ ?_ ?_ ?_ ?_; rotate_left 2; (focus (simp only [List.getElem?_toArray, List.getElem?_cons_zero, List.getElem?_cons_succ]; rfl)); (focus kernel_rfl); (focus kernel_rfl); (focus kernel_rfl); (focus kernel_rfl); (focus exact fun _ _ _ h => h); (focus (refine Or.inl ⟨by rfl, ?_⟩; intro W hW; (try dsimp only at hW); go_simp; try with_reducible rfl)); (focus exact HC); (try simp only [Act.put, List.setIfInBounds_toArray, List.set_cons_zero, List.set_cons_succ]))
    (refine wpAnyK_take (i := 42) (oi := ?_) (v := ?_) ?_ ?_ ?_ ?_ ?_ ?_ ?_ ?_ ?_; rotate_left 2; (focus (simp only [List.getElem?_toArray, List.getElem?_cons_zero, List.getElem?_cons_succ]; rfl)); (focus kernel_rfl); (focus kernel_rfl); (focus kernel_rfl); (focus kernel_rfl); (focus exact fun _ _ _ h => h); (focus (refine Or.inl ⟨by rfl, ?_⟩; intro W hW; (try dsimp only at hW); go_simp; try with_reducible rfl)); (focus exact HC); (try simp only [Act.put, List.setIfInBounds_toArray, List.set_cons_zero, List.set_cons_succ]))
    obtain ⟨m, hm⟩ : ∃ m, bits .and .i64 z0 7 = m := ⟨_, rfl⟩
    have hm7 := and7 z0
    rw [hm] at hm7 ⊢
    obtain ⟨hm0, hm7⟩ := hm7
    clear HC
    have hI0 := hx.drewN 1
    obtain ⟨W0, hW0⟩ : ∃ W0, wr.drewN 1 = W0 := ⟨_, rfl⟩
    rw [hW0] at hI0 ⊢
    have hxW : Mix.Ex wr W0 := hW0 ▸ (Mix.Ex.refl wr).drewN 1
    refine wpAnyK_rg (us := [0, 6, 7, 20, 25, 38, 43, 44, 45]) (fun i v W => match i with
      | 0 => ∃ G, v = .slice (some ⟨G, 0, none⟩) 8 8 ∧ W.heap[G]? = some (.cells #[.int .i64 0, .int .i64 0, .int .i64 0, .int .i64 0, .int .i64 1, .int .i64 1, .int .i64 2, .int .i64 3] 3 (0, 0))
      | 6 => ∃ G, v = .pointer (some ⟨G, m.toNat, none⟩) ∧ W.heap[G]? = some (.cells #[.int .i64 0, .int .i64 0, .int .i64 0, .int .i64 0, .int .i64 1, .int .i64 1, .int .i64 2, .int .i64 3] 3 (0, 0))
      | 7 => v = .int .i64 (kind0 z0)
      | 20 => v = .agg #[.int .i64 (R.of4 z1 z2 z3 z4).x0, .int .i64 (R.of4 z1 z2 z3 z4).y0, .int .i64 (R.of4 z1 z2 z3 z4).x1, .int .i64 (R.of4 z1 z2 z3 z4).y1]
      | 25 => v = .agg (itemV (R.of4 z1 z2 z3 z4, z5)).toArray
      | 38 => v = .agg #[.int .i64 (R.of4 z6 z7 z8 z9).x0, .int .i64 (R.of4 z6 z7 z8 z9).y0, .int .i64 (R.of4 z6 z7 z8 z9).x1, .int .i64 (R.of4 z6 z7 z8 z9).y1]
      | 43 => v = .agg (itemV (R.of4 z6 z7 z8 z9, z10)).toArray
      | 44 => v = .agg (stepV ⟨kind0 z0, (R.of4 z1 z2 z3 z4, z5), (R.of4 z6 z7 z8 z9, z10)⟩).toArray
      | 45 => ∃ p, v = .pointer (some ⟨p, 0, none⟩) ∧ wr.heap.size ≤ p ∧ W.heap[p]? = some (.cells #[.int .i64 0, .int .i64 0, .int .i64 0, .int .i64 0, .int .i64 0, .int .i64 0, .int .i64 0, .int .i64 0, .int .i64 0, .int .i64 0, .int .i64 0] 37 (0, 0))
      | _ => True) (fun _ => Mix.Ex) (Mix.Ex W0) (by kernel_rfl) 1 (fun W h => FX.out _ (hI0.trans h)) (Mix.Ex.refl _) ?_ ?_ ?_
    · intro i hi j _ _ v W W' hv hG
      simp only [List.mem_cons, List.not_mem_nil, or_false] at hi
      rcases hi with rfl | rfl | rfl | rfl | rfl | rfl | rfl | rfl | rfl
      · obtain ⟨g, h1, h2⟩ := hv; exact ⟨g, h1, hG.obj h2⟩
      · obtain ⟨g, h1, h2⟩ := hv; exact ⟨g, h1, hG.obj h2⟩
      · exact hv
      · exact hv
      · exact hv
      · exact hv
      · exact hv
      · exact hv
      · obtain ⟨g, h1, h2, h3⟩ := hv; exact ⟨g, h1, h2, hG.obj h3⟩
    · have hdev := True.intro
      intro i hi
      simp only [List.mem_cons, List.not_mem_nil, or_false] at hi
      rcases hi with rfl | rfl | rfl | rfl | rfl | rfl | rfl | rfl | rfl
      · intro o ho x W hI hd K hK
        simp only [List.getElem?_toArray, List.getElem?_cons_zero, List.getElem?_cons_succ, Option.some.injEq] at ho
        subst ho
        simp only [putU, dstOf, List.getElem?_toArray, List.getElem?_cons_zero, List.getElem?_cons_succ, Option.bind_some, Act.put, List.setIfInBounds_toArray, List.set_cons_zero, List.set_cons_succ] at hK ⊢
        go_simp
        exact hK _ _ (hI.alloc _) ((Mix.Ex.refl _).alloc _) ⟨W.heap.size, rfl, heap_alloc_new _ _⟩
      · intro o ho x W hI hd K hK
        simp only [List.getElem?_toArray, List.getElem?_cons_zero, List.getElem?_cons_succ, Option.some.injEq] at ho
        subst ho
        simp only [putU, dstOf, List.getElem?_toArray, List.getElem?_cons_zero, List.getElem?_cons_succ, Option.bind_some, Act.put, List.setIfInBounds_toArray, List.set_cons_zero, List.set_cons_succ] at hK ⊢
        obtain ⟨G, h1, h2⟩ := hd ⟨0, .data⟩ (by simp) rfl rfl
        rw [h1] at hK ⊢
        have hm8 : m < 8 := by omega
        go_simp
        exact hK _ _ hI (Mix.Ex.refl _) ⟨G, rfl, h2⟩
      · intro o ho x W hI hd K hK
        simp only [List.getElem?_toArray, List.getElem?_cons_zero, List.getElem?_cons_succ, Option.some.injEq] at ho
        subst ho
        simp only [putU, dstOf, List.getElem?_toArray, List.getElem?_cons_zero, List.getElem?_cons_succ, Option.bind_some, Act.put, List.setIfInBounds_toArray, List.set_cons_zero, List.set_cons_succ] at hK ⊢
        obtain ⟨G, h1, h2⟩ := hd ⟨6, .data⟩ (by simp) rfl rfl
        have h3 : W.cell? ⟨G, m.toNat, none⟩ = some (.int .i64 (kind0 z0)) := by
          rw [cellOf h2]
          unfold kind0
          rw [hm]
          obtain h | h | h | h | h | h | h | h : m.toNat = 0 ∨ m.toNat = 1 ∨ m.toNat = 2 ∨ m.toNat = 3 ∨ m.toNat = 4 ∨ m.toNat = 5 ∨ m.toNat = 6 ∨ m.toNat = 7 := by omega
          all_goals (rw [h]; rfl)
        rw [h1] at hK ⊢
        clear hd h1
        go_simp
        exact hK _ _ hI (Mix.Ex.refl _) rfl
      · intro o ho x W hI hd K hK
        simp only [List.getElem?_toArray, List.getElem?_cons_zero, List.getElem?_cons_succ, Option.some.injEq] at ho
        subst ho
        simp only [putU, dstOf, List.getElem?_toArray, List.getElem?_cons_zero, List.getElem?_cons_succ, Option.bind_some, Act.put, List.setIfInBounds_toArray, List.set_cons_zero, List.set_cons_succ] at hK ⊢
        clear hd
        go_simp
        refine (BoxOf_c _ z1 z2 z3 z4 w1 w2 w3 w4).mono ?_
        rintro e W1 ⟨rfl, x1, rfl⟩
        exact hK _ _ (hI.ext x1) ((Mix.Ex.refl _).ext x1) rfl
      · intro o ho x W hI hd K hK
        simp only [List.getElem?_toArray, List.getElem?_cons_zero, List.getElem?_cons_succ, Option.some.injEq] at ho
        subst ho
        simp only [putU, dstOf, List.getElem?_toArray, List.getElem?_cons_zero, List.getElem?_cons_succ, Option.bind_some, Act.put, List.setIfInBounds_toArray, List.set_cons_zero, List.set_cons_succ] at hK ⊢
        have h1 := hd ⟨20, .data⟩ (by simp) rfl rfl
        dsimp only at h1
        rw [h1] at hK ⊢
        clear hd h1
        go_simp
        exact hK _ _ hI (Mix.Ex.refl _) rfl
      · intro o ho x W hI hd K hK
        simp only [List.getElem?_toArray, List.getElem?_cons_zero, List.getElem?_cons_succ, Option.some.injEq] at ho
        subst ho
        simp only [putU, dstOf, List.getElem?_toArray, List.getElem?_cons_zero, List.getElem?_cons_succ, Option.bind_some, Act.put, List.setIfInBounds_toArray, List.set_cons_zero, List.set_cons_succ] at hK ⊢
        clear hd
        go_simp
        refine (BoxOf_c _ z6 z7 z8 z9 w6 w7 w8 w9).mono ?_
        rintro e W1 ⟨rfl, x1, rfl⟩
        exact hK _ _ (hI.ext x1) ((Mix.Ex.refl _).ext x1) rfl
      · intro o ho x W hI hd K hK
        simp only [List.getElem?_toArray, List.getElem?_cons_zero, List.getElem?_cons_succ, Option.some.injEq] at ho
        subst ho
        simp only [putU, dstOf, List.getElem?_toArray, List.getElem?_cons_zero, List.getElem?_cons_succ, Option.bind_some, Act.put, List.setIfInBounds_toArray, List.set_cons_zero, List.set_cons_succ] at hK ⊢
        have h1 := hd ⟨38, .data⟩ (by simp) rfl rfl
        dsimp only at h1
        rw [h1] at hK ⊢
        clear hd h1
        go_simp
        exact hK _ _ hI (Mix.Ex.refl _) rfl
      · intro o ho x W hI hd K hK
        simp only [List.getElem?_toArray, List.getElem?_cons_zero, List.getElem?_cons_succ, Option.some.injEq] at ho
        subst ho
        simp only [putU, dstOf, List.getElem?_toArray, List.getElem?_cons_zero, List.getElem?_cons_succ, Option.bind_some, Act.put, List.setIfInBounds_toArray, List.set_cons_zero, List.set_cons_succ] at hK ⊢
        have h1 := hd ⟨7, .data⟩ (by simp) rfl rfl
        have h2 := hd ⟨25, .data⟩ (by simp) rfl rfl
        have h3 := hd ⟨43, .data⟩ (by simp) rfl rfl
        dsimp only [itemV] at h1 h2 h3
        rw [h1, h2, h3] at hK ⊢
        clear hd h1 h2 h3
        go_simp
        exact hK _ _ hI (Mix.Ex.refl _) rfl
      · intro o ho x W hI hd K hK
        simp only [List.getElem?_toArray, List.getElem?_cons_zero, List.getElem?_cons_succ, Option.some.injEq] at ho
        subst ho
        simp only [putU, dstOf, List.getElem?_toArray, List.getElem?_cons_zero, List.getElem?_cons_succ, Option.bind_some, Act.put, List.setIfInBounds_toArray, List.set_cons_zero, List.set_cons_succ] at hK ⊢
        clear hd
        go_simp
        exact hK _ _ (hI.alloc _) ((Mix.Ex.refl _).alloc _) ⟨W.heap.size, rfl, Nat.le_trans hxW.below.size hI.below.size, heap_alloc_new _ _⟩
    · intro x W hI hA
      have h44 : x 44 = _ := hA 44 (by simp)
      obtain ⟨p, h45, hp, hpc⟩ := hA 45 (by simp)
      clear hA
      simp only [putU, dstOf, List.getElem?_toArray, List.getElem?_cons_zero, List.getElem?_cons_succ, Option.bind_some, Act.put, List.setIfInBounds_toArray, List.set_cons_zero, List.set_cons_succ]
      rw [h44, h45]
      generalize x 0 = x0
      generalize x 6 = x6
      generalize x 7 = x7
      generalize x 20 = x20
      generalize x 25 = x25
      generalize x 38 = x38
      generalize x 43 = x43
      clear h44 h45 x
      obtain ⟨st, hst⟩ : ∃ st : Stp, st = ⟨kind0 z0, (R.of4 z1 z2 z3 z4, z5), (R.of4 z6 z7 z8 z9, z10)⟩ := ⟨_, rfl⟩
      rw [← hst]
      have HST := Lib.hid hst
      clear hst
      have hxp := hI0.trans hI
      have hwp : w.heap.size ≤ p := Nat.le_trans hbs hp
      have hrowW := hrow.ex (hxW.trans hI)
      have c0 := cellOf hpc 0
      have f0 : W.frozen? ⟨p, 0, none⟩ = false := frzOf hpc 0
      have c1 := cellOf hpc 1
      have f1 : W.frozen? ⟨p, 1, none⟩ = false := frzOf hpc 1
      have c2 := cellOf hpc 2
      have f2 : W.frozen? ⟨p, 2, none⟩ = false := frzOf hpc 2
      have c3 := cellOf hpc 3
      have f3 : W.frozen? ⟨p, 3, none⟩ = false := frzOf hpc 3
      have c4 := cellOf hpc 4
      have f4 : W.frozen? ⟨p, 4, none⟩ = false := frzOf hpc 4
      have c5 := cellOf hpc 5
      have f5 : W.frozen? ⟨p, 5, none⟩ = false := frzOf hpc 5
      have c6 := cellOf hpc 6
      have f6 : W.frozen? ⟨p, 6, none⟩ = false := frzOf hpc 6
      have c7 := cellOf hpc 7
      have f7 : W.frozen? ⟨p, 7, none⟩ = false := frzOf hpc 7
      have c8 := cellOf hpc 8
      have f8 : W.frozen? ⟨p, 8, none⟩ = false := frzOf hpc 8
      have c9 := cellOf hpc 9
      have f9 : W.frozen? ⟨p, 9, none⟩ = false := frzOf hpc 9
      have c10 := cellOf hpc 10
      have f10 : W.frozen? ⟨p, 10, none⟩ = false := frzOf hpc 10
      simp only [List.getElem?_toArray, List.getElem?_cons_zero, List.getElem?_cons_succ] at c0 c1 c2 c3 c4 c5 c6 c7 c8 c9 c10
      (refine wpAnyK_one (i := 46) (o := ?_) ?_ ?_ ?_ (fun K hK => ?_); rotate_left 1; (focus kernel_rfl); (focus (simp only [List.getElem?_toArray, List.getElem?_cons_zero, List.getElem?_cons_succ]; rfl)); (focus rfl))
      simp only [stepV]
      go_simp
      have hb2 := putSt_obj hpc st
      have hx2 := putSt_ex hxp hwp st
      have hrow2 := hrow.ex (putSt_ex (hxW.trans hI) hp st)
      unfold putSt at hb2 hx2 hrow2
      clear c0 c1 c2 c3 c4 c5 c6 c7 c8 c9 c10 f0 f1 f2 f3 f4 f5 f6 f7 f8 f9 f10
      generalize (((((((((((W.setCell ⟨p, 0, none⟩ (.int .i64 st.k)).setCell ⟨p, 1, none⟩ (.int .i64 st.o.1.x0)).setCell ⟨p, 2, none⟩ (.int .i64 st.o.1.y0)).setCell ⟨p, 3, none⟩ (.int .i64 st.o.1.x1)).setCell ⟨p, 4, none⟩ (.int .i64 st.o.1.y1)).setCell ⟨p, 5, none⟩ (.int .i64 st.o.2)).setCell ⟨p, 6, none⟩ (.int .i64 st.n.1.x0)).setCell ⟨p, 7, none⟩ (.int .i64 st.n.1.y0)).setCell ⟨p, 8, none⟩ (.int .i64 st.n.1.x1)).setCell ⟨p, 9, none⟩ (.int .i64 st.n.1.y1)).setCell ⟨p, 10, none⟩ (.int .i64 st.n.2)) = W2 at hb2 hx2 hrow2 ⊢
      refine hK _ _ (fun _ => FX.out _ hx2) ?_
      clear hK K
      refine wpAnyK_done (by kernel_rfl) ?_ _
      have HB2 := Lib.hid hb2
      have HF := FX.out _ hx2
      have hrw := hrow
      clear hb2 FX hI0 hW0 hxW hI hxp hpc hrowW hrow hx hm
      have hstp : stpAt zs (11 * k) = ⟨kindAt z0, st.o, st.n⟩ := by
        rw [← Hat.out, HST.out]
        unfold stpAt
        rw [HZ0.out, HZ1.out, HZ2.out, HZ3.out, HZ4.out, HZ5.out, HZ6.out, HZ7.out, HZ8.out, HZ9.out, HZ10.out]
      have hsk : st.k = kind0 z0 := by rw [HST.out]
      have c0 := cellOf HB2.out 0
      have c1 := cellOf HB2.out 1
      have c2 := cellOf HB2.out 2
      have c3 := cellOf HB2.out 3
      have c4 := cellOf HB2.out 4
      have c5 := cellOf HB2.out 5
      have c6 := cellOf HB2.out 6
      have c7 := cellOf HB2.out 7
      have c8 := cellOf HB2.out 8
      have c9 := cellOf HB2.out 9
      have c10 := cellOf HB2.out 10
      have f0 := frzOf HB2.out 0
      simp only [stepV, List.getElem?_toArray, List.getElem?_cons_zero, List.getElem?_cons_succ] at c0 c1 c2 c3 c4 c5 c6 c7 c8 c9 c10
      obtain ⟨g0, -, -, -, -, -, -, -, -, -, -⟩ := HF
      have HSTP := Lib.hid hstp
      have HX2 := Lib.hid hx2
      have HROW2 := Lib.hid hrow2
      clear hstp hx2 hrow2 HST HZ0 HZ1 HZ2 HZ3 HZ4 HZ5 HZ6 HZ7 HZ8 HZ9 HZ10
      by_cases h3 : st.k = 3
      · have e3 : (st.k == 3) = true := by simp [h3]
        have H3 := Lib.hid h3
        clear h3
        by_cases h7 : bits .and .i64 z0 127 = 7
        · have e7 : (bits .and .i64 z0 127 == 7) = true := by simp [h7]
          have hsf : st = stpAt zs (11 * k) := by
            rw [HSTP.out]; unfold kindAt; rw [if_neg (fun h => h.2 h7), ← hsk]
          have HSF := Lib.hid hsf
          clear hsf hsk HSTP
          have hlen := stepsN_len zs k
          have hx3 := HX2.out
          have hrow3 := HROW2.out
          have hx4 := hx3.alloc (.cells (stepV st).toArray 37)
          go_wp2_with (at_builtin; refine wpList_append_row _ rfl (.tmp 82) (.tmp 84) 23 rfl B 37 i0 _ 11 88 Try.underlying23 hi0 hz0 hz1 hz2 rfl (by omega) stepV (.slice (some ⟨g, 0, none⟩) k cap) (stepsN zs k) st rfl (hrow3.ex ((Mix.Ex.refl _).alloc _)) ⟨_, 0, none⟩ 1 rfl (World.news_of_block (cs := (stepV st).toArray) (heap_alloc_new _ _)) (stepV_one _) (by unfold maxLen; omega) (by omega) (by have h9 := HX2.out.below.size; simp only [World.size_alloc, World.size_setCell]; omega) ?_; intro g2 cap2 w3 hrow5 hgrow hat2 hlt2)
          have hx5 := hx4.grown hgrow (fun j hj => by simp [Value.ownBlock] at hj; subst hj; have := (hrow3.lt g rfl).1; omega)
          rw [HSF.out, ← stepsN_succ, hlen] at hrow5
          go_roundw
          case rel => exact ⟨k + 1, at' + 11, g2, cap2, by have := Hat.out; omega, by have := Hat.out; omega, by have := Hat.out; omega, by go_num, rfl, hrow5, hx5⟩
          case measure => simp [intOf]; omega
        · have e7 : (bits .and .i64 z0 127 == 7) = false := by simp [h7]
          have hsf : (⟨0, st.o, st.n⟩ : Stp) = stpAt zs (11 * k) := by
            rw [HSTP.out]; unfold kindAt; rw [if_pos ⟨hsk ▸ H3.out, h7⟩]
          have HSF := Lib.hid hsf
          have hgp : g ≠ p := fun e => by have := hrw.lt g rfl; omega
          clear hsf hsk HSTP
          have hlen := stepsN_len zs k
          have hx3 := HX2.out.setCell (p := ⟨p, 0, none⟩) hwp (.int .i64 0)
          have hrow3 := (HROW2.out.of_block (w' := W2.setCell ⟨p, 0, none⟩ (.int .i64 0)) (fun j hj => by simp only [Value.ownBlock, Option.some.injEq] at hj; subst hj; exact setCell_ne _ hgp _ _))
          have hx4 := hx3.alloc (.cells (stepV (⟨0, st.o, st.n⟩ : Stp)).toArray 37)
          go_wp2_with (at_builtin; refine wpList_append_row _ rfl (.tmp 82) (.tmp 84) 23 rfl B 37 i0 _ 11 88 Try.underlying23 hi0 hz0 hz1 hz2 rfl (by omega) stepV (.slice (some ⟨g, 0, none⟩) k cap) (stepsN zs k) (⟨0, st.o, st.n⟩ : Stp) rfl (hrow3.ex ((Mix.Ex.refl _).alloc _)) ⟨_, 0, none⟩ 1 rfl (World.news_of_block (cs := (stepV (⟨0, st.o, st.n⟩ : Stp)).toArray) (by have h := heap_alloc_new (W2.setCell ⟨p, 0, none⟩ (.int .i64 0)) (.cells (stepV (⟨0, st.o, st.n⟩ : Stp)).toArray 37); rw [World.size_setCell] at h; exact h)) (stepV_one _) (by unfold maxLen; omega) (by omega) (by have h9 := HX2.out.below.size; simp only [World.size_alloc, World.size_setCell]; omega) ?_; intro g2 cap2 w3 hrow5 hgrow hat2 hlt2)
          have hx5 := hx4.grown hgrow (fun j hj => by simp [Value.ownBlock] at hj; subst hj; have := (hrow3.lt g rfl).1; omega)
          rw [HSF.out, ← stepsN_succ, hlen] at hrow5
          go_roundw
          case rel => exact ⟨k + 1, at' + 11, g2, cap2, by have := Hat.out; omega, by have := Hat.out; omega, by have := Hat.out; omega, by go_num, rfl, hrow5, hx5⟩
          case measure => simp [intOf]; omega
      · have e3 : (st.k == 3) = false := by simp [h3]
        have hsf : st = stpAt zs (11 * k) := by
          rw [HSTP.out]; unfold kindAt; rw [if_neg (fun h => h3 (hsk.trans h.1)), ← hsk]
        have HSF := Lib.hid hsf
        clear hsf hsk HSTP
        have hlen := stepsN_len zs k
        have hx3 := HX2.out
        have hrow3 := HROW2.out
        have hx4 := hx3.alloc (.cells (stepV st).toArray 37)
        go_wp2_with (at_builtin; refine wpList_append_row _ rfl (.tmp 82) (.tmp 84) 23 rfl B 37 i0 _ 11 88 Try.underlying23 hi0 hz0 hz1 hz2 rfl (by omega) stepV (.slice (some ⟨g, 0, none⟩) k cap) (stepsN zs k) st rfl (hrow3.ex ((Mix.Ex.refl _).alloc _)) ⟨_, 0, none⟩ 1 rfl (World.news_of_block (cs := (stepV st).toArray) (heap_alloc_new _ _)) (stepV_one _) (by unfold maxLen; omega) (by omega) (by have h9 := HX2.out.below.size; simp only [World.size_alloc, World.size_setCell]; omega) ?_; intro g2 cap2 w3 hrow5 hgrow hat2 hlt2)
        have hx5 := hx4.grown hgrow (fun j hj => by simp [Value.ownBlock] at hj; subst hj; have := (hrow3.lt g rfl).1; omega)
        rw [HSF.out, ← stepsN_succ, hlen] at hrow5
        go_roundw
        case rel => exact ⟨k + 1, at' + 11, g2, cap2, by have := Hat.out; omega, by have := Hat.out; omega, by have := Hat.out; omega, by go_num, rfl, hrow5, hx5⟩
        case measure => simp [intOf]; omega
end Go.Proofs.Ytboeldlilkeihaa
/- The contract of 'Fair': where it answers true, the steps are fair. -/
namespace Go
theorem World.Row.take {α : Type} {w : World} {base : Nat} {e : TypeId} {size : Nat} {f : α → List Value} {g n cap : Nat} {L : List α} (h : w.Row base e size f (.slice (some ⟨g, 0, none⟩) n cap) L) (hn : L.length = n) {i : Nat} (hi : i ≤ n) :
    w.Row base e size f (.slice (some ⟨g, 0, none⟩) i cap) (L.take i) := by
  have hl : (L.take i).length = i := by rw [List.length_take]; omega
  have hfl : (L.flatMap f).take (i * size) = (L.take i).flatMap f := by
    have e := List.take_append_drop i L
    have e2 : L.flatMap f = (L.take i).flatMap f ++ (L.drop i).flatMap f := by rw [← List.flatMap_append, e]
    rw [e2, List.take_append_of_le_length (by rw [flat_len f size h.len, hl]; exact Nat.le_refl _)]
    rw [List.take_of_length_le (by rw [flat_len f size h.len, hl]; exact Nat.le_refl _)]
  refine ⟨h.len, flat_len f size h.len _, ?_⟩
  rcases h.own.2 with ⟨h1, h2⟩ | ⟨g', cap', cur, h0, h1, h2, h3, h4, h5, h6⟩
  · cases h1
  · cases h0
    refine .inr ⟨g, cap, cur, by rw [hl], h1, h2, by omega, h4, h5, ?_⟩
    rw [hl, ← hfl, ← h6, List.take_take, Nat.min_eq_left]
    exact Nat.mul_le_mul_right _ (by omega)
end Go
namespace Go.Proofs.Ytboeldlilkeihaa
open Go.RowKit Go.Bx
/-- An item that makes a step unfair. -/
def badI (x o : R × Int) : Prop := x ≠ o ∧ x.2 = o.2 ∧ x.1.expand o.1 = o.1
set_option maxRecDepth 100000 in
set_option maxHeartbeats 1600000 in
theorem fair_c (w : World) (b0 b1 : Nat) (v : Value) (L : List (R × Int)) (hr : w.Row b0 35 5 itemV v L) (g1 n cap1 : Nat) (S : List Stp) (hS : w.Row b1 37 11 stepV (.slice (some ⟨g1, 0, none⟩) n cap1) S) (hn : S.length = n) (hm : L.length + n ≤ 900000) :
    Calls Try.prog 24 #[v, .slice (some ⟨g1, 0, none⟩) n cap1] w fun e w' => ∃ b, e = .returned (.bool b) ∧ (b = true → fair L S) ∧ Mix.Ex w w' := by
  have HN := Lib.hid hn
  have HS := Lib.hid hS
  have hncap : n ≤ cap1 := by
    rcases hS.form with ⟨h1, _⟩ | ⟨g, cap, h0, _, _, h3, _⟩
    · cases h1
    · cases h0; omega
  clear hn hS
  go_enter Try.func24, Try.ntmps24
  go_wp2_with fail
  go_loopw [11] (fun i wr => ∃ kk : Nat, kk ≤ n ∧ i = .int .i64 kk ∧ Hid (∀ j st, j < kk → S[j]? = some st → fairAt (play L (S.take j)) st) ∧ Mix.Ex w wr) (fun i _ => n - (intOf i).toNat)
  case atStart => exact ⟨0, by omega, rfl, Lib.hid (fun j st hj => by omega), Mix.Ex.refl _⟩
  case round =>
    obtain ⟨kk, hk, rfl, HF, hx⟩ := hrel
    by_cases hlt : kk < n
    case neg =>
      have hkn : kk = n := by omega
      subst hkn
      go_wp2_with fail
      go_ret
      exact ⟨true, rfl, fun _ i st hi => HF.out i st (by have := (List.getElem?_eq_some_iff.1 hi).1; have := HN.out; omega) hi, hx⟩
    obtain ⟨st, hst⟩ : ∃ st, S[kk]? = some st := ⟨S[kk]'(by have := HN.out; omega), List.getElem?_eq_getElem _⟩
    have hSr := HS.out.ex hx
    have c0 : wr.cell? ⟨g1, kk * 11, none⟩ = some (.int .i64 st.k) := hSr.cell (j := 0) hst rfl
    have c1 := hSr.cell (j := 1) hst rfl
    have c2 := hSr.cell (j := 2) hst rfl
    have c3 := hSr.cell (j := 3) hst rfl
    have c4 := hSr.cell (j := 4) hst rfl
    have c5 := hSr.cell (j := 5) hst rfl
    have c6 := hSr.cell (j := 6) hst rfl
    have c7 := hSr.cell (j := 7) hst rfl
    have c8 := hSr.cell (j := 8) hst rfl
    have c9 := hSr.cell (j := 9) hst rfl
    have c10 := hSr.cell (j := 10) hst rfl
    have HST := Lib.hid hst
    have hbs := hx.below.size
    clear hSr hst
    go_upto_region 4 with (fail)
    have hx1 := hx.alloc (.cells (stepV st).toArray 37)
    have hnew := heap_alloc_new wr (.cells (stepV st).toArray 37)
    change Code.wp _ _ _ _ (wr.alloc (.cells (stepV st).toArray 37))
    generalize wr.heap.size = B1 at hnew hbs ⊢
    generalize (wr.alloc (.cells (stepV st).toArray 37)) = w1 at hx1 hnew ⊢
    clear c0 c1 c2 c3 c4 c5 c6 c7 c8 c9 c10 hx
    have c0 := cellOf hnew 0
    simp only [stepV, List.getElem?_toArray, List.getElem?_cons_zero, List.getElem?_cons_succ] at c0
    have HX1 := Lib.hid hx1
    have HNEW := Lib.hid hnew
    clear hnew hx1
    by_cases h12 : st.k = 1 ∨ st.k = 2
    case neg =>
      have k1 : (st.k != 1) = true := by simp; omega
      have k2 : (st.k != 2) = true := by simp; omega
      have HF' := Lib.hid (show ∀ j st, j < kk + 1 → S[j]? = some st → fairAt (play L (S.take j)) st from fun j st' hj hs => by
        by_cases hjk : j < kk
        · exact HF.out j st' hjk hs
        · have : j = kk := by omega
          subst this
          rw [HST.out] at hs
          cases hs
          exact fun h => absurd h h12)
      clear h12 HF
      go_wp2_with fail
      go_roundw
      case measure => simp [intOf]; omega
      case rel => exact ⟨kk + 1, by omega, by go_num, HF', HX1.out⟩
    have hP := play_c w1 b0 b1 v L (hr.ex HX1.out) g1 kk cap1 (S.take kk) ((HS.out.ex HX1.out).take HN.out (by omega)) (by rw [List.length_take]; have := HN.out; omega) (by omega)
    have HFn : (∀ x ∈ play L (S.take kk), ¬ badI x st.o) → Hid (∀ j st, j < kk + 1 → S[j]? = some st → fairAt (play L (S.take j)) st) := fun hb => Lib.hid fun j st' hj hs => by
        by_cases hjk : j < kk
        · exact HF.out j st' hjk hs
        · have : j = kk := by omega
          subst this
          rw [HST.out] at hs
          cases hs
          exact fun _ x hx => hb x hx
    have hB1 : B1 < w1.heap.size := (Array.getElem?_eq_some_iff.1 HNEW.out).1
    have hml := play_len (S.take kk) L
    rw [List.length_take] at hml
    have hml : (play L (S.take kk)).length ≤ 900000 := by omega
    generalize play L (S.take kk) = M at hP HFn hml
    have HFN := Lib.hid HFn
    clear HFn HF
    rcases h12 with h1 | h1
    all_goals
      have HK := Lib.hid h1
      rw [h1] at c0
      clear h1
      go_upto_region 5 with (fail)
      go_wp2_with fail
      refine hP.mono ?_
      rintro e w2 ⟨v', rfl, hrow, hx2⟩
      obtain ⟨om, capm, rfl, hom⟩ := hrow.slice
      obtain ⟨m, hmm⟩ : ∃ m, M.length = m := ⟨_, rfl⟩
      rw [hmm] at hrow hom hml ⊢
      have HM := Lib.hid hmm
      have HROW := Lib.hid hrow
      have HX2 := Lib.hid hx2
      clear hrow hmm hP hx2
      go_upto_region 6 with (fail)
      go_loopw [30] (fun i wr => ∃ jj : Nat, jj ≤ m ∧ i = .int .i64 jj ∧ Hid (∀ j x, j < jj → M[j]? = some x → ¬ badI x st.o) ∧ Mix.Ex w2 wr) (fun i _ => m - (intOf i).toNat)
      case atStart => exact ⟨0, by omega, rfl, Lib.hid (fun j st hj => by omega), Mix.Ex.refl _⟩
      case round =>
        obtain ⟨jj, hj, rfl, HG, hx⟩ := hrel
        by_cases hlj : jj < m
        case neg =>
          have hall : ∀ x ∈ M, ¬ badI x st.o := fun x hx => by
            obtain ⟨j, hj⟩ := List.mem_iff_getElem?.1 hx
            exact HG.out j x (by have := (List.getElem?_eq_some_iff.1 hj).1; have := HM.out; omega) hj
          have hfin := HFN.out hall
          have hxe := (HX1.out.trans HX2.out).trans hx
          clear hall HG hx
          go_wp2_with fail
          go_roundw
          case measure => simp [intOf]; omega
          case rel => exact ⟨kk + 1, by omega, by go_num, hfin, hxe⟩
        obtain ⟨gm, rfl⟩ := hom (by omega)
        obtain ⟨x, hxj⟩ : ∃ x, M[jj]? = some x := ⟨M[jj]'(by have := HM.out; omega), List.getElem?_eq_getElem _⟩
        obtain ⟨l0, l1, l2, l3, l4⟩ := row_cells5 (HROW.out.ex hx) hxj
        have HXJ := Lib.hid hxj
        clear hxj
        have hbn := (HX2.out.trans hx).obj HNEW.out
        have hbs2 := (HX2.out.trans hx).below.size
        have d1 := cellOf hbn 1
        have d2 := cellOf hbn 2
        have d3 := cellOf hbn 3
        have d4 := cellOf hbn 4
        have d5 := cellOf hbn 5
        simp only [stepV, List.getElem?_toArray, List.getElem?_cons_zero, List.getElem?_cons_succ] at d1 d2 d3 d4 d5
        have hxw := (HX1.out.trans HX2.out).trans hx
        have HXW := Lib.hid hxw
        have hx3 := hx.alloc (.cells (itemV x).toArray 35)
        have hnx := heap_alloc_new wr (.cells (itemV x).toArray 35)
        clear hxw hx
        have HGn : ¬ badI x st.o → Hid (∀ j x, j < jj + 1 → M[j]? = some x → ¬ badI x st.o) := fun hb => Lib.hid fun j y hj hs => by
          by_cases hjk : j < jj
          · exact HG.out j y hjk hs
          · have : j = jj := by omega
            subst this
            rw [HXJ.out] at hs
            cases hs
            exact hb
        have HGN := Lib.hid HGn
        clear HGn HG
        go_upto_region 8 with (fail)
        have hb3 := ((Mix.Ex.refl wr).alloc (.cells (itemV x).toArray 35)).obj hbn
        change Code.wp _ _ _ _ (wr.alloc (.cells (itemV x).toArray 35))
        generalize wr.heap.size = B3 at hnx hbs2 ⊢
        generalize (wr.alloc (.cells (itemV x).toArray 35)) = w3 at hx3 hnx hb3 ⊢
        clear d1 d2 d3 d4 d5 l0 l1 l2 l3 l4
        have HX3 := Lib.hid hx3
        have l0 := cellOf hnx 0
        have l1 := cellOf hnx 1
        have l2 := cellOf hnx 2
        have l3 := cellOf hnx 3
        have l4 := cellOf hnx 4
        have d1 := cellOf hb3 1
        have d2 := cellOf hb3 2
        have d3 := cellOf hb3 3
        have d4 := cellOf hb3 4
        have d5 := cellOf hb3 5
        simp only [itemV, stepV, List.getElem?_toArray, List.getElem?_cons_zero, List.getElem?_cons_succ] at l0 l1 l2 l3 l4 d1 d2 d3 d4 d5
        have q1 := World.block_lt_of_cell? w3 _ d1
        have q2 := World.block_lt_of_cell? w3 _ l0
        dsimp only at q1 q2
        clear hx3 hnx hb3 hbn
        obtain ⟨d, hd⟩ : ∃ d, sameI (⟨x.1.x0, x.1.y0, x.1.x1, x.1.y1⟩, x.2) (⟨st.o.1.x0, st.o.1.y0, st.o.1.x1, st.o.1.y1⟩, st.o.2) = d := ⟨_, rfl⟩
        have HD := Lib.hid hd
        cases d
        case true =>
          have hfin := HGN.out (fun h => h.1 (of_decide_eq_true HD.out))
          (refine Mix.wp_region_ex (by kernel_rfl) (by kernel_rfl) ?_; (repeat (go_big_quiet_step (fail))); refine wpQuiet_nil ?_; intro nq)
          go_wp2_with fail
          go_roundw
          case measure => simp [intOf]; omega
          case rel => exact ⟨jj + 1, by omega, by go_num, hfin, HX3.out.ext _⟩
        case false =>
          obtain ⟨d', hd'⟩ : ∃ d', (x.2 == st.o.2) = d' := ⟨_, rfl⟩
          have HD' := Lib.hid hd'
          cases d'
          case false =>
            have hfin := HGN.out (fun h => by have := HD'.out; simp at this; exact this h.2.1)
            (refine Mix.wp_region_ex (by kernel_rfl) (by kernel_rfl) ?_; (repeat (go_big_quiet_step (fail))); refine wpQuiet_nil ?_; intro nq)
            go_wp2_with fail
            go_roundw
            case measure => simp [intOf]; omega
            case rel => exact ⟨jj + 1, by omega, by go_num, hfin, HX3.out.ext _⟩
          case true =>
            obtain ⟨d2, hd2⟩ : ∃ d2, same ⟨(x.1.expand st.o.1).x0, (x.1.expand st.o.1).y0, (x.1.expand st.o.1).x1, (x.1.expand st.o.1).y1⟩ ⟨st.o.1.x0, st.o.1.y0, st.o.1.x1, st.o.1.y1⟩ = d2 := ⟨_, rfl⟩
            have HD2 := Lib.hid hd2
            have hA := fun W => specAround_c W x.1 st.o.1
            cases d2
            case false =>
              have hfin := HGN.out (fun h => of_decide_eq_false HD2.out h.2.2)
              (refine Mix.wp_region_ex (by kernel_rfl) (by kernel_rfl) ?_; (repeat (go_big_quiet_step ((go_at_call 29; exact Mix.calls_qx (hA _) (fun y => ⟨_, World.ext_ext _ _ _⟩))))); refine wpQuiet_nil ?_; intro nq)
              go_wp2_with fail
              go_roundw
              case measure => simp [intOf]; omega
              case rel => exact ⟨jj + 1, by omega, by go_num, hfin, HX3.out.ext _⟩
            case true =>
              (refine Mix.wp_region_ex (by kernel_rfl) (by kernel_rfl) ?_; (repeat (go_big_quiet_step ((go_at_call 29; exact Mix.calls_qx (hA _) (fun y => ⟨_, World.ext_ext _ _ _⟩))))); refine wpQuiet_nil ?_; intro nq)
              go_wp2_with fail
              go_ret
              exact ⟨false, rfl, (fun h => by cases h), (HX1.out.trans HX2.out).trans (HX3.out.ext _)⟩
end Go.Proofs.Ytboeldlilkeihaa
/- The steps of numbers: each is in form, 400 at most; an argument of numbers. -/
namespace Go.Bx
theorem stepsOf_len (zs : List Int) : (stepsOf zs).length ≤ 400 := by unfold stepsOf; rw [stepsN_len]; omega
end Go.Bx
namespace Go.Proofs.Ytboeldlilkeihaa
open Go.RowKit Go.Bx
theorem stepsOf_ok {w : World} {v : Value} {zs : List Int} (h : Ints16At w v zs) : ∀ st ∈ stepsOf zs, st.ok := by
  intro st hst
  unfold stepsOf stepsN at hst
  obtain ⟨i, _, rfl⟩ := List.mem_map.1 hst
  exact ⟨⟨R.small_of4 (h.wf _) (h.wf _) (h.wf _) (h.wf _), R.ok_of4 _ _ _ _⟩, ⟨R.small_of4 (h.wf _) (h.wf _) (h.wf _) (h.wf _), R.ok_of4 _ _ _ _⟩⟩
theorem Ints16At.ex {w w' : World} {v : Value} {zs : List Int} (h : Ints16At w v zs) (hx : Mix.Ex w w') : Ints16At w' v zs := by
  obtain ⟨⟨o, cap, e, hc⟩, hl, hcap, hw⟩ := h
  refine ⟨⟨o, cap, e, fun h0 => ?_⟩, hl, hcap, hw⟩
  obtain ⟨a, ha, hb, hcs⟩ := hc h0
  exact ⟨a, ha, Nat.lt_of_lt_of_le hb hx.below.size, fun i hi => hx.cell (hcs i hi)⟩
theorem Ints16At.nil (w : World) : Ints16At w (.slice none 0 0) [] := ⟨⟨none, 0, rfl, fun h => by simp at h⟩, by simp, by rintro o n cap h; cases h; exact Nat.le_refl _, fun i => by simp [I16]⟩
theorem Ints16At.mk' {w : World} {a : Addr} {len cap : Nat} {zs : List Int} (hl : len ≤ cap) (hz : zs.length = cap) (hreach : len ≤ 70368744175616)
    (hcell : ∀ i, i < zs.length → w.cell? (a.add i) = some (.int .i16 (zs.getD i 0))) (hwz : ∀ n ∈ zs, (Lit.int .i16 n).wf = true) : Ints16At w (.slice (some a) len cap) (zs.take len) := by
  have hlen : (zs.take len).length = len := by rw [List.length_take]; omega
  refine ⟨⟨some a, cap, by rw [hlen], fun h => ⟨a, rfl, ?_, fun i hi => ?_⟩⟩, by omega, ?_, fun i => ?_⟩
  · have := World.block_lt_of_cell? w _ (hcell 0 (by omega))
    rwa [add_block] at this
  · rw [hcell i (by omega)]
    congr 2
    simp only [List.getD_eq_getElem?_getD]
    rw [List.getElem?_take_of_lt (by omega)]
  · rintro o n cap h; cases h; exact hl
  · rcases Nat.lt_or_ge i (zs.take len).length with h | h
    · have h2 : (zs.take len).getD i 0 ∈ zs := by
        simp only [List.getD_eq_getElem?_getD, List.getElem?_eq_getElem h, Option.getD_some]
        exact List.mem_of_mem_take (List.getElem_mem h)
      have := bounds_i16 (hwz _ h2)
      exact this
    · simp only [List.getD_eq_getElem?_getD, List.getElem?_eq_none h, Option.getD_none]
      simp [I16]
end Go.Proofs.Ytboeldlilkeihaa
