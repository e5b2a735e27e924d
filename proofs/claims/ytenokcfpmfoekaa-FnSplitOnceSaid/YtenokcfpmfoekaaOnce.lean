/- The contract of the reference's 'Once', where each number is there once. -/
import Derived.Test.YtenokcfpmfoekaaSortL
import Derived.OneCell
set_option linter.unusedSimpArgs false
set_option linter.unusedVariables false
namespace Go
open Go.RowKit
theorem frozen_of_block {w : World} {b o : Nat} {s : Option Nat} {cs : Array Value} {T : TypeId} (h : w.heap[b]? = some (.cells cs T (0, 0))) : w.frozen? ⟨b, o, s⟩ = false := by
  unfold World.frozen?; rw [h]; simp
namespace Bx
/-- Which numbers were seen. -/
def seenC (n : Nat) (P : List Int) : Array Value := (Array.range n).map fun i : Nat => Value.bool (decide ((i : Int) ∈ P))
theorem seenC_get (n : Nat) (P : List Int) (i : Nat) (h : i < n) : (seenC n P)[i]? = some (.bool (decide ((i : Int) ∈ P))) := by simp [seenC, h]
theorem seenC_set (n : Nat) (P : List Int) (i : Nat) (h : i < n) : (seenC n P).setIfInBounds i (.bool true) = seenC n (P ++ [(i : Int)]) := by
  apply Array.ext_getElem?
  intro k
  rw [Array.getElem?_setIfInBounds]
  by_cases hk : k < n
  · rw [seenC_get _ _ _ hk, seenC_get _ _ _ hk]
    by_cases e : i = k
    · subst e; simp [seenC, h]
    · rw [if_neg e]
      congr 2
      simp only [List.mem_append, List.mem_singleton, decide_eq_decide]
      constructor
      · exact .inl
      · rintro (h | h)
        · exact h
        · omega
  · rw [Array.getElem?_eq_none (by simp [seenC]; omega), Array.getElem?_eq_none (by simp [seenC]; omega)]
    split
    · rw [if_neg (by simp [seenC]; omega)]
    · rfl
end Bx
end Go
namespace Go.Proofs.Ytenokcfpmfoekaa
open Go.RowKit Go.Bx
theorem info_bool : (Try.prog.info? 4).map (fun i => (i.zero, i.size, i.bytes)) = some (some (.bool false), 1, 1) := by kernel_rfl
theorem made_bool (n : Nat) : madeCells (Value.bool false).cells n = seenC n [] := by
  unfold madeCells seenC
  congr 1
  funext i
  have : (Value.bool false).cells.size = 1 := rfl
  rw [this, Nat.mod_one]
  simp [Value.cells]
theorem make_bool (w : World) (n : Nat) (h : n ≤ 64) : (Instr.makeSlice 57 (.int .i64 n) (.int .i64 n)).run Try.prog w = .ok (.slice (some ⟨w.heap.size, 0, none⟩) n n) (w.alloc (.cells (seenC n []) 4)) := by
  obtain ⟨i0, hi0, hz0, hz1, hz2⟩ := info_parts info_bool
  rw [run_make w _ _ i0 _ Try.underlying57 hi0 hz0 _ _ n n (by omega) (by omega) (by rw [hz2]; omega) (by omega), hz1, Nat.mul_one, Int.toNat_natCast, made_bool]
theorem take_snoc' {L : List Int} {k : Nat} {x : Int} (h : L[k]? = some x) : L.take (k + 1) = L.take k ++ [x] := by rw [List.take_add_one, h]; rfl
set_option maxRecDepth 100000 in
set_option maxHeartbeats 3200000 in
theorem once_c (w : World) (n gl cap base m : Nat) (Ls : List (List Int)) (hgl : gl < w.heap.size) (hl : ∀ j L, Ls[j]? = some L → ∃ v, w.cell? ⟨gl, j, none⟩ = some v ∧ w.Row base 3 1 intV v L) (hn : n ≤ 64)
    (hin : ∀ x ∈ Ls.flatten, 0 ≤ x ∧ x < n) (hnd : Ls.flatten.Nodup) (hlen : Ls.flatten.length = n) (hm : Ls.length = m) (hm64 : m ≤ 64) :
    Calls Try.prog 31 #[.int .i64 n, .slice (some ⟨gl, 0, none⟩) m cap] w fun e w' => e = .returned (.bool true) ∧ Mix.Ex w w' := by
  have hmk := fun w => make_bool w n hn
  have HM := Lib.hid hm
  have HLEN := Lib.hid hlen
  clear hm hlen
  go_enter Try.func31, Try.ntmps31
  go_wp2_with fail
  obtain ⟨S, hS⟩ : ∃ S, w.heap.size = S := ⟨_, rfl⟩
  have hb0 : (w.alloc (.cells (seenC n []) 4)).heap[S]? = some (.cells (seenC n []) 4 (0, 0)) := by rw [← hS]; exact heap_alloc_new w _
  have hx0 := (Mix.Ex.refl w).alloc (.cells (seenC n []) 4)
  rw [hS] at hgl ⊢
  go_loopw [6, 15] (fun c i wr => ∃ (j : Nat) (P : List Int), j ≤ m ∧ i = .int .i64 j ∧ P = (Ls.take j).flatten ∧ c = .int .i64 P.length ∧ wr.heap[S]? = some (.cells (seenC n P) 4 (0, 0)) ∧ Mix.Ex w wr) (fun _ i _ => m - (intOf i).toNat)
  case atStart => exact ⟨0, [], by omega, rfl, rfl, rfl, hb0, hx0⟩
  case round =>
    obtain ⟨j, P, hj, rfl, hP, rfl, hb, hx⟩ := hrel
    have HP := Lib.hid hP
    clear hP
    obtain ⟨wo, rfl⟩ : ∃ wo : World, wo = wr := ⟨_, rfl⟩
    by_cases hjm : j < m
    case neg =>
      have e : ((P.length : Int) == (n : Int)) = true := by
        rw [HP.out, List.take_of_length_le (by have := HM.out; omega), HLEN.out]; simp
      go_wp2_with fail
      go_ret
      exact ⟨rfl, hx⟩
    obtain ⟨L, hL⟩ : ∃ L, Ls[j]? = some L := ⟨Ls[j]'(by have := HM.out; omega), List.getElem?_eq_getElem _⟩
    obtain ⟨v, hv, hrow⟩ := hl j L hL
    have hv' := hx.cell hv
    have hPL : (Ls.take (j + 1)).flatten = P ++ L := by
      rw [List.take_add_one, hL, HP.out]; simp
    have hsub : ∀ k, ∃ R, Ls.flatten = P ++ L.take k ++ R := fun k => by
      refine ⟨L.drop k ++ (Ls.drop (j + 1)).flatten, ?_⟩
      have e1 : Ls = Ls.take (j + 1) ++ Ls.drop (j + 1) := (List.take_append_drop _ _).symm
      conv => lhs; rw [e1, List.flatten_append, hPL]
      conv => lhs; rw [← List.take_append_drop k L]
      simp only [List.append_assoc]
    have hl64 : L.length ≤ 64 := by
      obtain ⟨R, hR⟩ := hsub L.length
      have := congrArg List.length hR
      rw [HLEN.out, List.take_length, List.length_append, List.length_append] at this
      omega
    have HPL := Lib.hid hPL
    have HSUB := Lib.hid hsub
    clear hPL hsub
    have hrowo := hrow.ex hx
    obtain ⟨l, hl0⟩ : ∃ l, L.length = l := ⟨_, rfl⟩
    rw [hl0] at hl64
    have HL0 := Lib.hid hl0
    have HL := Lib.hid hL
    clear hL
    rcases hrow.form with ⟨rfl, rfl⟩ | ⟨g, cp, rfl, hg1, hg2, hg3, hg4⟩
    · clear hl0
      go_wp2_with fail
      go_loopw [6, 21] (fun c i wr => c = .int .i64 P.length ∧ i = .int .i64 0 ∧ wr = wo) (fun _ i _ => 0)
      case atStart => exact ⟨rfl, rfl, rfl⟩
      case round =>
        obtain ⟨rfl, rfl, rfl⟩ := hrel
        go_wp2_with fail
        go_roundw
        case rel => exact ⟨j + 1, P, by omega, by go_num, by rw [HPL.out, List.append_nil], rfl, hb, hx⟩
        case measure => simp [intOf]; omega
    · rw [hl0] at hv' hg3
      clear hl0
      have hgS : g ≠ S := by omega
      go_wp2_with fail
      go_loopw [6, 21] (fun c i wr => ∃ k : Nat, k ≤ l ∧ i = .int .i64 k ∧ c = .int .i64 (P ++ L.take k).length ∧ wr.heap[S]? = some (.cells (seenC n (P ++ L.take k)) 4 (0, 0)) ∧ Mix.Ex w wr) (fun _ i _ => l - (intOf i).toNat)
      case atStart => exact ⟨0, by omega, rfl, by simp, by simpa using hb, hx⟩
      case round =>
        obtain ⟨k, hk, rfl, rfl, hb2, hx2⟩ := hrel
        by_cases hkl : k < l
        case neg =>
          have e : L.take k = L := List.take_of_length_le (by have := HL0.out; omega)
          rw [e] at hb2 ⊢
          clear hb hv'
          go_wp2_with fail
          go_roundw
          case rel => exact ⟨j + 1, P ++ L, by omega, by go_num, by rw [HPL.out], rfl, hb2, hx2⟩
          case measure => simp [intOf]; omega
        obtain ⟨x, hxk⟩ : ∃ x, L[k]? = some x := ⟨L[k]'(by have := HL0.out; omega), List.getElem?_eq_getElem _⟩
        obtain ⟨R1, hR1⟩ := HSUB.out (k + 1)
        have hxin : x ∈ Ls.flatten := by rw [hR1, take_snoc' hxk]; simp
        obtain ⟨hx0', hxn⟩ := hin x hxin
        have hxP : x ∉ P ++ L.take k := fun hm => by
          have hnd' := hnd
          rw [hR1, take_snoc' hxk, ← List.append_assoc, List.append_assoc _ [x], List.nodup_append] at hnd'
          exact hnd'.2.2 x hm x (by simp) rfl
        obtain ⟨y, rfl⟩ : ∃ y : Nat, x = (y : Int) := ⟨x.toNat, by omega⟩
        have hyn : y < n := by omega
        have c1 : wr.cell? ⟨g, k, none⟩ = some (.int .i64 y) := by
          have := (hrow.ex hx2).cell (i := k) (j := 0) hxk (u := .int .i64 y) rfl
          simpa using this
        have c2 : wr.cell? ⟨S, y, none⟩ = some (.bool false) := by
          rw [cell_of_row wr S y _ _ _ hb2, seenC_get _ _ _ hyn]
          simp only [Option.some.injEq, Value.bool.injEq, decide_eq_false_iff_not]
          exact hxP
        have c3 : wr.frozen? ⟨S, y, none⟩ = false := frozen_of_block hb2
        have hb3 := heap_setCell_same wr S y _ _ (.bool true) hb2
        rw [seenC_set _ _ _ hyn, List.append_assoc, ← take_snoc' hxk] at hb3
        have hx3 := hx2.setCell (p := ⟨S, y, none⟩) (by dsimp only; omega) (.bool true)
        have hlen1 : (P ++ L.take (k + 1)).length = (P ++ L.take k).length + 1 := by rw [take_snoc' hxk]; simp; omega
        have hcl : (P ++ L.take k).length ≤ 64 := by
          have h1 := congrArg List.length hR1
          rw [HLEN.out] at h1
          rw [List.length_append, hlen1] at h1
          omega
        have HLEN1 := Lib.hid hlen1
        generalize hcc : (P ++ L.take k).length = c at *
        have HCC := Lib.hid hcc
        clear hlen1 hcc hb hv' hR1 hxin hx0' hxn hxP hb2
        have HB3 := Lib.hid hb3
        clear hb3
        go_wp2_with fail
        go_roundw
        case rel => exact ⟨k + 1, by omega, by go_num, by rw [HLEN1.out]; go_num, HB3.out, hx3⟩
        case measure => simp [intOf]; omega
end Go.Proofs.Ytenokcfpmfoekaa
