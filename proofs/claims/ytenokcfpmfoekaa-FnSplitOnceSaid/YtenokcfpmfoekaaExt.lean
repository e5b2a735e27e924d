/- Worlds that have grown by blocks and draws of which nothing is asked. No program in sight. -/
import Derived.Test.YtenokcfpmfoekaaMix
import Derived.WalkKit
import Derived.Deep.QuietTactic
import Derived.BigQuiet
set_option linter.unusedSimpArgs false
set_option linter.unusedVariables false
namespace Go
open Go.RowKit
section
variable (w : World) (x y : Mix.Xt)
@[go_sem] theorem World.heap_ext (b : Nat) (h : b < w.heap.size) : (w.ext x).heap[b]? = w.heap[b]? := by
  simp only [World.ext]; rw [Array.getElem?_append_left h]
@[go_sem] theorem World.cell?_ext (b o : Nat) (s : Option Nat) (h : b < w.heap.size) : (w.ext x).cell? ⟨b, o, s⟩ = w.cell? ⟨b, o, s⟩ := by
  unfold World.cell?; rw [World.heap_ext w x b h]
@[go_sem] theorem World.frozen?_ext (b o : Nat) (s : Option Nat) (h : b < w.heap.size) : (w.ext x).frozen? ⟨b, o, s⟩ = w.frozen? ⟨b, o, s⟩ := by
  unfold World.frozen?; rw [World.heap_ext w x b h]
@[simp, go_sem] theorem World.size_ext : (w.ext x).heap.size = w.heap.size + x.1.size := by simp [World.ext]
theorem World.ext_ext : (w.ext x).ext y = w.ext ⟨x.1 ++ y.1, y.2⟩ := by simp [World.ext]
theorem World.drew_ext : (w.ext x).drew = w.ext ⟨x.1, x.2 + 1⟩ := rfl
theorem World.drewN_ext (n : Nat) : (w.ext x).drewN n = w.ext ⟨x.1, x.2 + n⟩ := rfl
theorem World.ext_drew : w.drew.ext x = w.ext x := rfl
theorem World.ext_drewN (n : Nat) : (w.drewN n).ext x = w.ext x := rfl
@[simp, go_sem] theorem World.tape_ext : (w.ext x).tape = w.tape := rfl
@[go_sem] theorem World.shape?_ext (b : Nat) (h : b < w.heap.size) : (w.ext x).shape? b = w.shape? b := by
  unfold World.shape?; rw [World.heap_ext w x b h]
end

section
variable (w : World) (x : Mix.Xt) (n : Nat)
@[go_sem] theorem World.setCell_drewN (a : Addr) (v : Value) : (w.drewN n).setCell a v = (w.setCell a v).drewN n := rfl
@[go_sem] theorem World.alloc_drewN (o : Obj) : (w.drewN n).alloc o = (w.alloc o).drewN n := rfl
@[go_sem] theorem World.setCell_ext (b o : Nat) (s : Option Nat) (v : Value) (h : b < w.heap.size) : (w.ext x).setCell ⟨b, o, s⟩ v = (w.setCell ⟨b, o, s⟩ v).ext x := by
  have hh : ((w.ext x).setCell ⟨b, o, s⟩ v).heap = ((w.setCell ⟨b, o, s⟩ v).ext x).heap := by
    apply Array.ext_getElem?
    intro i
    simp only [World.setCell, World.ext, Array.getElem?_modify]
    by_cases hi : i < w.heap.size
    · rw [Array.getElem?_append_left hi, Array.getElem?_append_left (by simpa using hi), Array.getElem?_modify]
    · rw [Array.getElem?_append_right (by omega), Array.getElem?_append_right (by simpa using hi), Array.size_modify, if_neg (by omega)]
  cases w
  simp only [World.setCell, World.ext] at *
  rw [hh]
end
namespace Mix
theorem Ex.of_below {w w' : World} (h : Below w.heap.size w w') : Ex w w' := by
  refine ⟨⟨w'.heap.extract w.heap.size w'.heap.size, w'.drawn⟩, ?_⟩
  have hh : w'.heap = w.heap ++ w'.heap.extract w.heap.size w'.heap.size := by
    apply Array.ext_getElem?
    intro i
    by_cases hi : i < w.heap.size
    · rw [Array.getElem?_append_left hi]; exact h.block i hi
    · rw [Array.getElem?_append_right (by omega), Array.getElem?_extract]
      have hs := h.size
      split
      · congr 1; omega
      · rw [Array.getElem?_eq_none]; omega
  have := h.os
  have := h.tape
  have := h.output
  cases w'; cases w
  simp only [World.ext] at *
  subst_vars
  rw [← hh]
theorem Ex.below {w w' : World} (h : Ex w w') : Below w.heap.size w w' := by
  obtain ⟨x, rfl⟩ := h
  exact ⟨rfl, rfl, rfl, by simp, fun k hk => World.heap_ext w x k hk⟩
theorem Ex.ext {a b : World} (h : Ex a b) (x : Mix.Xt) : Ex a (b.ext x) := h.trans ⟨x, rfl⟩
theorem Ex.drew {a b : World} (h : Ex a b) : Ex a b.drew := .of_below (h.below.drew)
theorem Ex.drewN {a b : World} (h : Ex a b) (n : Nat) : Ex a (b.drewN n) := h.trans ⟨⟨#[], b.drawn + n⟩, by simp [World.ext, World.drewN]⟩
theorem Ex.alloc {a b : World} (h : Ex a b) (o : Obj) : Ex a (b.alloc o) := .of_below (h.below.alloc h.below.size o)
theorem Ex.setCell {a b : World} (h : Ex a b) {p : Addr} (hp : a.heap.size ≤ p.block) (u : Value) : Ex a (b.setCell p u) := .of_below (h.below.setCell hp u)
end Mix
end Go
namespace Go
namespace Mix
theorem Dr.drew {a b : World} (h : Dr a b) : Dr a b.drew := by obtain ⟨n, rfl⟩ := h; exact ⟨n + 1, rfl⟩
theorem Dr.drewN {a b : World} (h : Dr a b) (m : Nat) : Dr a (b.drewN m) := by obtain ⟨n, rfl⟩ := h; exact ⟨n + m, World.drewN_drewN _ _ _⟩
/-- A callee that leaves the world alone, or draws, met in the midst of a region that reads. -/
theorem calls_q {P : Program} {f : FuncId} {args : Array Value} {W : World} {v : Value} {C : World → Prop} (h : Calls P f args W fun e w' => e = .returned v ∧ w' = W) (hC : C W) :
    Calls P f args W fun e w'' => e = .returned v ∧ C w'' := h.mono fun _ _ ⟨he, hw⟩ => ⟨he, hw ▸ hC⟩
theorem calls_qn {P : Program} {f : FuncId} {args : Array Value} {W : World} {v : Value} {C : World → Prop} (h : Calls P f args W fun e w' => e = .returned v ∧ ∃ n, w' = W.drewN n) (hC : ∀ n, C (W.drewN n)) :
    Calls P f args W fun e w'' => e = .returned v ∧ C w'' := h.mono fun _ _ ⟨he, n, hw⟩ => ⟨he, hw ▸ hC n⟩
theorem calls_qx {P : Program} {f : FuncId} {args : Array Value} {W : World} {v : Value} {C : World → Prop} (h : Calls P f args W fun e w' => e = .returned v ∧ Ex W w') (hC : ∀ x, C (W.ext x)) :
    Calls P f args W fun e w'' => e = .returned v ∧ C w'' := h.mono fun _ _ ⟨he, n, hw⟩ => ⟨he, hw ▸ hC n⟩
end Mix
theorem World.setCell_self {w : World} {a : Addr} {v : Value} (h : w.cell? a = some v) : w.setCell a v = w := by
  unfold World.cell? at h
  split at h
  · rename_i c e fr hb
    have hs : a.spot.isSome = false := by
      cases hs : a.spot.isSome with
      | false => rfl
      | true => simp [hs] at h
    simp only [hs, Bool.false_eq_true, if_false] at h
    have this : (w.setCell a v).heap = w.heap := by
      apply Array.ext_getElem?
      intro i
      simp only [World.setCell, Array.getElem?_modify]
      split
      · rename_i hi
        subst hi
        rw [hb]
        simp only [Option.map_some, hs, Bool.false_eq_true, if_false]
        congr 2
        apply Array.ext_getElem?
        intro j
        by_cases hj : a.off = j
        · subst hj
          rw [Array.getElem?_setIfInBounds]
          simp only [if_true]
          split
          · exact h.symm
          · rename_i hlt
            rw [Array.getElem?_eq_none (by omega)] at h
            simp at h
        · rw [Array.getElem?_setIfInBounds_ne hj]
      · rfl
    cases w
    simp only [World.setCell] at *
    rw [this]
  · simp at h
theorem World.setCell_comm (w : World) {a b : Addr} (u v : Value) (h : a ≠ b) (ha : a.spot = none) (hb : b.spot = none) : (w.setCell a u).setCell b v = (w.setCell b v).setCell a u := by
  have : ((w.setCell a u).setCell b v).heap = ((w.setCell b v).setCell a u).heap := by
    apply Array.ext_getElem?
    intro i
    simp only [World.setCell, Array.getElem?_modify]
    by_cases h1 : b.block = i <;> by_cases h2 : a.block = i <;> simp only [h1, h2, if_true, if_false]
    cases w.heap[i]? with
    | none => rfl
    | some x =>
      cases x <;> simp only [Option.map_some]
      simp only [ha, hb, Option.isSome_none, Bool.false_eq_true, if_false]
      rw [Array.setIfInBounds_comm]
      intro he
      apply h
      cases a; cases b; simp_all
  cases w
  simp only [World.setCell] at *
  rw [this]
end Go
