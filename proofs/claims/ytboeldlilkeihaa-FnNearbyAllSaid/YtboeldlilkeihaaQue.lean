/- Floats, heaps, the queue of Nearby. -/
import Derived.Laws.Cover2
import Derived.Test.YtboeldlilkeihaaSame
import Derived.Test.YtboeldlilkeihaaColl
import Derived.Test.YtboeldlilkeihaaRefB
set_option linter.unusedSimpArgs false
set_option linter.unusedVariables false
/- Whole numbers as floats of 64 bits. -/
namespace Go.Proofs.Ytboeldlilkeihaa
open Go

theorem cut_zero (n : Nat) : Ieee.Toward.even.cut false n 0 = n := by
  have h : n % 1 = 0 := by omega
  simp [Ieee.Toward.cut, h]

theorem fl_read (n : Nat) (h : n < 2^53) : ∃ (m j : Nat), Ieee.double.read (floatOfInt .f64 (n : Int)) = .number false m (-(j : Int)) ∧ m = n * 2^j := by
  have hE : floatOfInt .f64 (n : Int) = Ieee.double.nearest false n 0 := by
    have h : decide ((n:Int) < 0) = false := by simp
    simp only [floatOfInt, FloatKind.nearest, FloatKind.encode, Ieee.Format.write, FloatKind.format, h, Int.natAbs_natCast]
  rw [hE]
  by_cases h0 : n = 0
  · subst h0
    have h0 : ∃ j : Nat, Ieee.double.read (Ieee.double.nearest false 0 0) = .number false 0 (-(j : Int)) := ⟨1074, by decide +kernel⟩
    obtain ⟨j, hj⟩ := h0
    exact ⟨0, j, hj, (Nat.zero_mul _).symm⟩
  · have h1 : 2 ^ n.log2 ≤ n := Nat.log2_self_le h0
    have h2 : n < 2 ^ (n.log2 + 1) := Nat.lt_log2_self
    have h3 : n.log2 < 53 := (Nat.log2_lt h0).2 h
    generalize hk : n.log2 = k at h1 h2 h3
    have hp : (2:Nat) ^ k * 2 ^ (52 - k) = 2 ^ 52 := by rw [← Nat.pow_add]; congr 1; omega
    have hp2 : (2:Nat) ^ (k+1) * 2 ^ (52 - k) = 2 ^ 53 := by rw [← Nat.pow_add]; congr 1; omega
    have hlo : 2 ^ 52 ≤ n * 2 ^ (52 - k) := by rw [← hp]; exact Nat.mul_le_mul_right _ h1
    have hhi : n * 2 ^ (52 - k) < 2 ^ 53 := by rw [← hp2]; exact Nat.mul_lt_mul_of_pos_right h2 (Nat.pos_of_ne_zero (by simp))
    generalize hm : n * 2 ^ (52 - k) = m at hlo hhi
    have hw : Ieee.double.nearest false n 0 = (k + 1022) * 2 ^ 52 + m := by
      unfold Ieee.Format.nearest
      have hl : Ieee.double.leastPlace = -1074 := by decide +kernel
      have hf : Ieee.double.fractionBits = 52 := rfl
      have hb : Ieee.double.binade = 2 ^ 52 := rfl
      have hr : Ieee.double.infRung = 2047 * 2 ^ 52 := by decide +kernel
      rw [if_neg h0, hk, hl, hf, hb, hr]
      have hx : max ((0:Int) + (k:Int) - ((52:Nat):Int)) (-1074) = (k:Int) - 52 := by omega
      simp only [hx]
      have e1 : ((0:Int) - ((k:Int) - 52)).toNat = 52 - k := by omega
      have e2 : ((k:Int) - 52 - 0).toNat = 0 := by omega
      have e3 : ((k:Int) - 52 - -1074).toNat = k + 1022 := by omega
      rw [e1, e2, e3, cut_zero, Nat.shiftLeft_eq, hm]
      simp only [Ieee.Format.word]
      rw [if_neg (by simp), Nat.min_eq_left (by omega)]
    refine ⟨m, 52 - k, ?_, hm.symm⟩
    rw [hw]
    unfold Ieee.Format.read
    have hs : Ieee.double.signWeight = 2 ^ 63 := by decide +kernel
    have hl : Ieee.double.leastPlace = -1074 := by decide +kernel
    have hb : Ieee.double.binade = 2 ^ 52 := rfl
    have hr : Ieee.double.infRung = 2047 * 2 ^ 52 := by decide +kernel
    simp only [hs, hl, hb, hr]
    have a1 : ((k + 1022) * 2 ^ 52 + m) / 2 ^ 63 = 0 := Nat.div_eq_of_lt (by omega)
    have a2 : ((k + 1022) * 2 ^ 52 + m) % 2 ^ 63 = (k + 1022) * 2 ^ 52 + m := Nat.mod_eq_of_lt (by omega)
    have a3 : ((k + 1022) * 2 ^ 52 + m) / 2 ^ 52 = k + 1023 := by omega
    have a4 : ((k + 1022) * 2 ^ 52 + m) % 2 ^ 52 = m - 2 ^ 52 := by omega
    rw [a1, a2, a3, a4, if_neg (by omega), if_pos (by omega)]
    have a5 : 2 ^ 52 + (m - 2 ^ 52) = m := by omega
    have a6 : (-1074 : Int) + ((k + 1023 - 1 : Nat) : Int) = -((52 - k : Nat) : Int) := by omega
    rw [a5, a6]; rfl

/-- Two whole numbers as floats stand to each other as they do. -/
theorem fl_order (n m : Nat) (hn : n < 2^53) (hm : m < 2^53) : Ieee.double.order (floatOfInt .f64 (n : Int)) (floatOfInt .f64 (m : Int)) = some (compare n m) := by
  obtain ⟨a, i, ha, hai⟩ := fl_read n hn
  obtain ⟨b, j, hb, hbj⟩ := fl_read m hm
  unfold Ieee.Format.order
  rw [ha, hb]
  simp only [Ieee.Datum.order, Ieee.signed, Bool.false_eq_true, if_false, Nat.shiftLeft_eq]
  subst hai hbj
  generalize hB : min (-(i:Int)) (-(j:Int)) = B
  have e1 : n * 2 ^ i * 2 ^ (-(i:Int) - B).toNat = n * 2 ^ (-B).toNat := by
    rw [Nat.mul_assoc, ← Nat.pow_add]; congr 2; omega
  have e2 : m * 2 ^ j * 2 ^ (-(j:Int) - B).toNat = m * 2 ^ (-B).toNat := by
    rw [Nat.mul_assoc, ← Nat.pow_add]; congr 2; omega
  rw [e1, e2]
  have hpos : 0 < 2 ^ (-B).toNat := Nat.pos_of_ne_zero (by simp)
  congr 1
  rcases Nat.lt_trichotomy n m with h | h | h
  · rw [Nat.compare_eq_lt.2 h]
    have := (Nat.mul_lt_mul_of_pos_right h hpos)
    simp only [compare, compareOfLessAndEq]
    rw [if_pos (by omega)]
  · subst h; rw [Nat.compare_eq_eq.2 rfl]; simp [compare, compareOfLessAndEq]
  · rw [Nat.compare_eq_gt.2 h]
    have := (Nat.mul_lt_mul_of_pos_right h hpos)
    simp only [compare, compareOfLessAndEq]
    rw [if_neg (by omega), if_neg (by omega)]

theorem fl_gt (n m : Nat) (hn : n < 2^53) (hm : m < 2^53) : (FloatKind.f64.format.order (floatOfInt .f64 (n : Int)) (floatOfInt .f64 (m : Int)) == some .gt) = decide (m < n) := by
  show (Ieee.double.order _ _ == _) = _
  rw [fl_order n m hn hm]
  rcases Nat.lt_trichotomy n m with h | h | h
  · rw [Nat.compare_eq_lt.2 h, decide_eq_false (by omega)]; rfl
  · rw [Nat.compare_eq_eq.2 h, decide_eq_false (by omega)]; rfl
  · rw [Nat.compare_eq_gt.2 h, decide_eq_true h]; rfl
theorem fl_le (n m : Nat) (hn : n < 2^53) (hm : m < 2^53) : (FloatKind.f64.format.order (floatOfInt .f64 (n : Int)) (floatOfInt .f64 (m : Int)) == some .lt || FloatKind.f64.format.order (floatOfInt .f64 (n : Int)) (floatOfInt .f64 (m : Int)) == some .eq) = decide (n ≤ m) := by
  show (Ieee.double.order _ _ == _ || Ieee.double.order _ _ == _) = _
  rw [fl_order n m hn hm]
  rcases Nat.lt_trichotomy n m with h | h | h
  · rw [Nat.compare_eq_lt.2 h, decide_eq_true (by omega)]; rfl
  · rw [Nat.compare_eq_eq.2 h, decide_eq_true (by omega)]; rfl
  · rw [Nat.compare_eq_gt.2 h, decide_eq_false (by omega)]; rfl
theorem fl_ne (n m : Nat) (hn : n < 2^53) (hm : m < 2^53) : (FloatKind.f64.format.order (floatOfInt .f64 (n : Int)) (floatOfInt .f64 (m : Int)) != some .eq) = decide (n ≠ m) := by
  show (Ieee.double.order _ _ != _) = _
  rw [fl_order n m hn hm]
  rcases Nat.lt_trichotomy n m with h | h | h
  · rw [Nat.compare_eq_lt.2 h, decide_eq_true (by omega)]; rfl
  · rw [Nat.compare_eq_eq.2 h, decide_eq_false (by omega)]; rfl
  · rw [Nat.compare_eq_gt.2 h, decide_eq_true (by omega)]; rfl
end Go.Proofs.Ytboeldlilkeihaa
/- The plain law of a queue: a heap in a list. -/
namespace Go.Proofs.Ytboeldlilkeihaa
/-- Two places changed about. -/
def sw (g : Nat → Nat) (i j : Nat) : Nat → Nat := fun t => if t = i then g j else if t = j then g i else g t
def HeapG (g : Nat → Nat) (n : Nat) : Prop := ∀ t, 0 < t → t < n → g ((t-1)/2) ≤ g t
def HeapUp (g : Nat → Nat) (n i : Nat) : Prop := (∀ t, 0 < t → t < n → t ≠ i → g ((t-1)/2) ≤ g t) ∧ (∀ t, 0 < t → t < n → (t-1)/2 = i → 0 < i → g ((i-1)/2) ≤ g t)
def HeapDn (g : Nat → Nat) (n i : Nat) : Prop := (∀ t, 0 < t → t < n → (t-1)/2 ≠ i → g ((t-1)/2) ≤ g t) ∧ (∀ t, 0 < t → t < n → (t-1)/2 = i → 0 < i → g ((i-1)/2) ≤ g t)
theorem HeapUp.start {g : Nat → Nat} {n : Nat} (h : HeapG g n) : HeapUp g (n + 1) n := by
  refine ⟨fun t h0 h1 h2 => h t h0 (by omega), fun t h0 h1 h2 h3 => ?_⟩
  exfalso; omega
theorem HeapUp.step {g : Nat → Nat} {n i : Nat} (h : HeapUp g n i) (h0 : 0 < i) (hi : i < n) (hg : g i < g ((i-1)/2)) : HeapUp (sw g ((i-1)/2) i) n ((i-1)/2) := by
  obtain ⟨h1, h2⟩ := h
  have hp : (i-1)/2 < i := by omega
  generalize hP : (i-1)/2 = p at *
  refine ⟨fun t t0 tn tp => ?_, fun t t0 tn tp p0 => ?_⟩
  · unfold sw
    by_cases e1 : t = i
    · subst e1; rw [hP]; simp [tp]; omega
    · have := h1 t t0 tn e1
      by_cases e2 : (t-1)/2 = p
      · rw [e2] at this ⊢; simp [tp, e1]; omega
      · by_cases e3 : (t-1)/2 = i
        · have h4 := h2 t t0 tn e3 h0
          rw [e3]; simp [tp, e1, show i ≠ p by omega]; omega
        · simp [e1, e2, e3, tp]; exact this
  · unfold sw
    have e2 : (p-1)/2 ≠ p := by omega
    have e3 : (p-1)/2 ≠ i := by omega
    have hpp := h1 p p0 (by omega) (by omega)
    by_cases e1 : t = i
    · subst e1; simp [e2, e3, show t ≠ p by omega]; exact hpp
    · have := h1 t t0 tn e1
      rw [tp] at this
      simp [e1, e2, e3, show t ≠ p by omega]; omega
theorem HeapUp.done {g : Nat → Nat} {n i : Nat} (h : HeapUp g n i) (hd : i = 0 ∨ g ((i-1)/2) ≤ g i) : HeapG g n := by
  intro t t0 tn
  by_cases e : t = i
  · subst e; rcases hd with h | h
    · omega
    · exact h
  · exact h.1 t t0 tn e
theorem HeapDn.start {g g' : Nat → Nat} {n : Nat} (h : HeapG g (n + 1)) (hg : ∀ t, 0 < t → t < n → g' t = g t) : HeapDn g' n 0 := by
  refine ⟨fun t t0 tn tp => ?_, fun t _ _ _ h0 => absurd h0 (by omega)⟩
  rw [hg t t0 tn, hg ((t-1)/2) (by omega) (by omega)]
  exact h t t0 (by omega)
theorem HeapDn.step {g : Nat → Nat} {n i s : Nat} (h : HeapDn g n i) (hs : (s-1)/2 = i) (s0 : 0 < s) (sn : s < n) (hg : g s ≤ g i) (ho : ∀ t, 0 < t → t < n → (t-1)/2 = i → g s ≤ g t) : HeapDn (sw g s i) n s := by
  obtain ⟨h1, h2⟩ := h
  have hsi : i < s := by omega
  refine ⟨fun t t0 tn tp => ?_, fun t t0 tn tp p0 => ?_⟩
  · unfold sw
    by_cases e1 : t = s
    · subst e1; rw [hs]; simp [show i ≠ t by omega]; exact hg
    · by_cases e3 : (t-1)/2 = i
      · have := ho t t0 tn e3
        rw [e3]; simp [e1, show i ≠ s by omega, show t ≠ i by omega]; exact this
      · have h5 := h1 t t0 tn e3
        by_cases e2 : t = i
        · subst e2
          have := h2 s s0 sn hs (by omega)
          simp [e1, show (t-1)/2 ≠ s by omega, show (t-1)/2 ≠ t by omega]; exact this
        · simp [e1, e2, e3, tp]; exact h5
  · unfold sw
    have := h1 t t0 tn (by omega)
    rw [tp] at this
    rw [hs]; simp [show i ≠ s by omega, show t ≠ s by omega, show t ≠ i by omega]; exact this
theorem HeapDn.done {g : Nat → Nat} {n i : Nat} (h : HeapDn g n i) (hd : ∀ t, 0 < t → t < n → (t-1)/2 = i → g i ≤ g t) : HeapG g n := by
  intro t t0 tn
  by_cases e : (t-1)/2 = i
  · rw [e]; exact hd t t0 tn e
  · exact h.1 t t0 tn e
theorem HeapG.least {g : Nat → Nat} {n : Nat} (h : HeapG g n) : ∀ t, t < n → g 0 ≤ g t := by
  intro t
  induction t using Nat.strongRecOn with
  | _ t ih =>
    intro tn
    by_cases e : t = 0
    · subst e; exact Nat.le_refl _
    · exact Nat.le_trans (ih ((t-1)/2) (by omega) (by omega)) (h t (by omega) tn)

section
variable {α : Type} (k : α → Nat)
/-- The key at a place. -/
def kyL (L : List α) (i : Nat) : Nat := ((L[i]?).map k).getD 0
theorem kyL_get {L : List α} {i : Nat} {x : α} (h : L[i]? = some x) : kyL k L i = k x := by simp [kyL, h]
def IsHeap (L : List α) : Prop := HeapG (kyL k L) L.length
/-- The list with two places changed about. -/
theorem sw_get {L : List α} {i j : Nat} {x y : α} (hi : L[i]? = some x) (hj : L[j]? = some y) (t : Nat) : ((L.set i y).set j x)[t]? = if t = i then some y else if t = j then some x else L[t]? := by
  have h1 := (List.getElem?_eq_some_iff.1 hi).1
  have h2 := (List.getElem?_eq_some_iff.1 hj).1
  rw [List.getElem?_set, List.getElem?_set]
  simp only [List.length_set]
  by_cases e1 : t = i
  · subst e1
    by_cases e2 : j = t
    · subst e2; rw [hi] at hj; cases hj; simp [h1]
    · simp [h1, e2]
  · by_cases e2 : t = j
    · subst e2; simp [h2, e1]
    · simp [e1, e2, Ne.symm e1, Ne.symm e2]
theorem sw_ky {L : List α} {i j : Nat} {x y : α} (hi : L[i]? = some x) (hj : L[j]? = some y) : kyL k ((L.set i y).set j x) = sw (kyL k L) i j := by
  funext t
  unfold kyL sw
  rw [sw_get hi hj]
  by_cases e1 : t = i
  · simp [e1, hj]
  · by_cases e2 : t = j
    · have e3 : j ≠ i := fun h => e1 (e2.trans h)
      simp [e2, e3, hi]
    · simp [e1, e2]
theorem sw_perm {L : List α} {i j : Nat} {x y : α} (hi : L[i]? = some x) (hj : L[j]? = some y) : ((L.set i y).set j x).Perm L := by
  have h1 := (List.getElem?_eq_some_iff.1 hi).1
  have h2 := (List.getElem?_eq_some_iff.1 hj).1
  have e1 : L[i] = x := (List.getElem?_eq_some_iff.1 hi).2
  have e2 : L[j] = y := (List.getElem?_eq_some_iff.1 hj).2
  subst e1 e2
  by_cases h : i = j
  · subst h; simp
  · exact List.set_set_perm h1 h2
/-- What a pop leaves ahead of the way down. -/
theorem pop_perm {L : List α} {m : Nat} {x y : α} (hm : L.length = m + 1) (hx : L[0]? = some x) (hy : L[m]? = some y) : (x :: (L.set 0 y).take m).Perm L := by
  cases L with
  | nil => simp at hm
  | cons a L =>
    simp only [List.getElem?_cons_zero, Option.some.injEq] at hx
    subst hx
    cases m with
    | zero =>
      have : L = [] := List.eq_nil_of_length_eq_zero (by simpa using hm)
      subst this; simp
    | succ m =>
      simp only [List.length_cons, Nat.add_right_cancel_iff] at hm
      simp only [List.getElem?_cons_succ] at hy
      rw [List.set_cons_zero, List.take_succ_cons]
      refine List.Perm.cons _ ?_
      have h1 : L = L.take m ++ [y] := by
        have h2 := List.take_append_drop m L
        have h3 : L.drop m = [y] := by
          have hlt : m < L.length := by omega
          rw [List.drop_eq_getElem_cons hlt, List.drop_eq_nil_of_le (by omega)]
          rw [List.getElem?_eq_getElem hlt] at hy
          simp only [Option.some.injEq] at hy
          rw [hy]
        rw [h3] at h2; exact h2.symm
      have h4 : (y :: L.take m).Perm (L.take m ++ [y]) := (List.perm_append_singleton y (L.take m)).symm
      exact h4.trans (by rw [← h1])
theorem pop_dn {L : List α} {m : Nat} {y : α} (h : IsHeap k L) (hm : L.length = m + 1) : HeapDn (kyL k ((L.set 0 y).take m)) m 0 := by
  unfold IsHeap at h
  rw [hm] at h
  refine HeapDn.start h fun t t0 tn => ?_
  unfold kyL
  rw [List.getElem?_take_of_lt tn, List.getElem?_set_ne (by omega)]
theorem push_up {L : List α} {x : α} (h : IsHeap k L) : HeapUp (kyL k (L ++ [x])) (L.length + 1) L.length := by
  have h2 : HeapG (kyL k (L ++ [x])) L.length := by
    intro t t0 tn
    have := h t t0 tn
    unfold kyL at this ⊢
    rw [List.getElem?_append_left tn, List.getElem?_append_left (by omega)]
    exact this
  exact HeapUp.start h2
theorem IsHeap.least {L : List α} (h : IsHeap k L) {x : α} (hx : L[0]? = some x) : ∀ y ∈ L, k x ≤ k y := by
  intro y hy
  obtain ⟨t, ht⟩ := List.getElem?_of_mem hy
  have := HeapG.least h t (List.getElem?_eq_some_iff.1 ht).1
  rw [kyL_get k hx, kyL_get k ht] at this
  exact this
end
end Go.Proofs.Ytboeldlilkeihaa
/- The queue of Nearby: push and pop. -/
namespace Go.Proofs.Ytboeldlilkeihaa
open Go.RowKit Go.Bx
/-- What the queue holds: a distance, a box, a number, a node or none; and what is known of it: the items below, how many nodes and items there are below. -/
structure QN where
  d : Nat
  r : R
  v : Int
  p : Option Addr
  its : List (R × Int)
  wt : Nat
def qnV (x : QN) : List Value := [.float .f64 (floatOfInt .f64 (x.d : Int)), .int .i64 x.r.x0, .int .i64 x.r.y0, .int .i64 x.r.x1, .int .i64 x.r.y1, .int .i64 x.v, .pointer x.p]
theorem qnV_len (x : QN) : (qnV x).length = 7 := rfl
theorem qnV_one (x : QN) : ∀ u ∈ qnV x, u.oneCell' = true := by
  intro u hu
  simp [qnV] at hu
  rcases hu with rfl | rfl | rfl | rfl | rfl | rfl | rfl <;> rfl
theorem run_store_fl {P : Program} (w : World) (a : Addr) (m : Mode) (k : FloatKind) (b : Nat) : (store a (.float k b) m).run P w = stored P w a (.float k b) m := run_store P w a _ m rfl
attribute [local go_sem] run_store_fl
theorem info_qn : (Try.prog.info? 126).map (fun i => (i.zero, i.size, i.bytes)) = some (some (.agg #[.float .f64 0, .int .i64 0, .int .i64 0, .int .i64 0, .int .i64 0, .int .i64 0, .pointer none]), 7, 56) := by kernel_rfl
theorem row_cells7 {w : World} {b0 g n cap k : Nat} {T : TypeId} {L : List QN} {y : QN} (h : w.Row b0 T 7 qnV (.slice (some ⟨g, 0, none⟩) n cap) L) (hk : L[k]? = some y) :
    w.cell? ⟨g, k * 7, none⟩ = some (.float .f64 (floatOfInt .f64 (y.d : Int))) ∧ w.cell? ⟨g, k * 7 + 1, none⟩ = some (.int .i64 y.r.x0) ∧ w.cell? ⟨g, k * 7 + 2, none⟩ = some (.int .i64 y.r.y0) ∧ w.cell? ⟨g, k * 7 + 3, none⟩ = some (.int .i64 y.r.x1) ∧ w.cell? ⟨g, k * 7 + 4, none⟩ = some (.int .i64 y.r.y1) ∧ w.cell? ⟨g, k * 7 + 5, none⟩ = some (.int .i64 y.v) ∧ w.cell? ⟨g, k * 7 + 6, none⟩ = some (.pointer y.p) :=
  ⟨h.cell (j := 0) hk rfl, h.cell (j := 1) hk rfl, h.cell (j := 2) hk rfl, h.cell (j := 3) hk rfl, h.cell (j := 4) hk rfl, h.cell (j := 5) hk rfl, h.cell (j := 6) hk rfl⟩
/-- An entry written into a list. -/
theorem Row.setQN {w : World} {b0 g n cap : Nat} {L : List QN} (h : w.Row b0 126 7 qnV (.slice (some ⟨g, 0, none⟩) n cap) L) (hn : L.length = n) {k : Nat} (hk : k < n) (y : QN) :
    (((((((w.setCell ⟨g, k * 7, none⟩ (.float .f64 (floatOfInt .f64 (y.d : Int)))).setCell ⟨g, k * 7 + 1, none⟩ (.int .i64 y.r.x0)).setCell ⟨g, k * 7 + 2, none⟩ (.int .i64 y.r.y0)).setCell ⟨g, k * 7 + 3, none⟩ (.int .i64 y.r.x1)).setCell ⟨g, k * 7 + 4, none⟩ (.int .i64 y.r.y1)).setCell ⟨g, k * 7 + 5, none⟩ (.int .i64 y.v)).setCell ⟨g, k * 7 + 6, none⟩ (.pointer y.p)).Row b0 126 7 qnV (.slice (some ⟨g, 0, none⟩) n cap) (L.set k y) := by
  subst hn
  have hlen : (L.set k y).length = L.length := List.length_set
  refine ⟨qnV_len, flat_len qnV 7 qnV_len _, ?_⟩
  rcases h.own.2 with ⟨h1, _⟩ | ⟨g', cap', cur, h0, h1, h2, h3, h4, h5, h6⟩
  · cases h1
  cases h0
  have o := (setCell_obj (setCell_obj (setCell_obj (setCell_obj (setCell_obj (setCell_obj (setCell_obj h2 (k * 7) (.float .f64 (floatOfInt .f64 (y.d : Int)))) (k * 7 + 1) (.int .i64 y.r.x0)) (k * 7 + 2) (.int .i64 y.r.y0)) (k * 7 + 3) (.int .i64 y.r.x1)) (k * 7 + 4) (.int .i64 y.r.y1)) (k * 7 + 5) (.int .i64 y.v)) (k * 7 + 6) (.pointer y.p))
  refine .inr ⟨g, cap, _, by rw [hlen], h1, o, by omega, h4, by simpa using h5, ?_⟩
  rw [hlen]
  apply List.ext_getElem?
  intro i
  rcases Nat.lt_or_ge i (L.length * 7) with hi | hi
  · rw [List.getElem?_take_of_lt hi, Array.getElem?_toList]
    have hq : i = (i / 7) * 7 + i % 7 := by omega
    have hq5 : i % 7 < 7 := Nat.mod_lt _ (by omega)
    have hqn : i / 7 < L.length := by omega
    have hcs : L.length * 7 ≤ cur.size := by rw [h5]; exact Nat.mul_le_mul_right _ h3
    have e1 : (L.flatMap qnV)[i]? = cur[i]? := by
      rw [← h6, List.getElem?_take_of_lt hi, Array.getElem?_toList]
    by_cases hqk : i / 7 = k
    · have e2 : ((L.set k y).flatMap qnV)[i]? = (qnV y)[i % 7]? := by
        conv => lhs; rw [hq]
        rw [hqk]
        exact flat_get qnV 7 qnV_len _ k (i % 7) y (by rw [List.getElem?_set_self (by omega)]) hq5
      rw [e2]
      simp only [Array.getElem?_setIfInBounds, Array.size_setIfInBounds]
      obtain h | h | h | h | h | h | h : i % 7 = 0 ∨ i % 7 = 1 ∨ i % 7 = 2 ∨ i % 7 = 3 ∨ i % 7 = 4 ∨ i % 7 = 5 ∨ i % 7 = 6 := by omega
      · rw [if_neg (by omega), if_neg (by omega), if_neg (by omega), if_neg (by omega), if_neg (by omega), if_neg (by omega), if_pos (by omega), if_pos (by omega), h]; rfl
      · rw [if_neg (by omega), if_neg (by omega), if_neg (by omega), if_neg (by omega), if_neg (by omega), if_pos (by omega), if_pos (by omega), h]; rfl
      · rw [if_neg (by omega), if_neg (by omega), if_neg (by omega), if_neg (by omega), if_pos (by omega), if_pos (by omega), h]; rfl
      · rw [if_neg (by omega), if_neg (by omega), if_neg (by omega), if_pos (by omega), if_pos (by omega), h]; rfl
      · rw [if_neg (by omega), if_neg (by omega), if_pos (by omega), if_pos (by omega), h]; rfl
      · rw [if_neg (by omega), if_pos (by omega), if_pos (by omega), h]; rfl
      · rw [if_pos (by omega), if_pos (by omega), h]; rfl
    · obtain ⟨z, hz⟩ : ∃ z, L[i / 7]? = some z := ⟨L[i / 7]'(by omega), List.getElem?_eq_getElem _⟩
      have e2 : ((L.set k y).flatMap qnV)[i]? = (qnV z)[i % 7]? := by
        conv => lhs; rw [hq]
        exact flat_get qnV 7 qnV_len _ (i / 7) (i % 7) z (by rw [List.getElem?_set_ne (Ne.symm hqk)]; exact hz) hq5
      have e3 : (L.flatMap qnV)[i]? = (qnV z)[i % 7]? := by
        conv => lhs; rw [hq]
        exact flat_get qnV 7 qnV_len _ (i / 7) (i % 7) z hz hq5
      rw [e2, ← e3, e1]
      simp only [Array.getElem?_setIfInBounds, Array.size_setIfInBounds]
      rw [if_neg (by omega), if_neg (by omega), if_neg (by omega), if_neg (by omega), if_neg (by omega), if_neg (by omega), if_neg (by omega)]
  · rw [List.getElem?_eq_none (by simp; omega), List.getElem?_eq_none (by rw [flat_len qnV 7 qnV_len, hlen]; exact hi)]
/-- What is no queue is as it was. -/
def KpQ (w w' : World) : Prop := w.heap.size ≤ w'.heap.size ∧ ∀ (b : Nat) (cs : Array Value) (T : TypeId) (fr : Nat × Nat), w.heap[b]? = some (Obj.cells cs T fr) → T ≠ 123 → T ≠ 126 → w'.heap[b]? = some (.cells cs T fr)
theorem KpQ.refl (w : World) : KpQ w w := ⟨Nat.le_refl _, fun _ _ _ _ h _ _ => h⟩
theorem KpQ.trans {a b c : World} (h : KpQ a b) (k : KpQ b c) : KpQ a c := ⟨Nat.le_trans h.1 k.1, fun i cs T fr e h1 h2 => k.2 i cs T fr (h.2 i cs T fr e h1 h2) h1 h2⟩
theorem KpQ.ex {a b c : World} (h : KpQ a b) (k : Mix.Ex b c) : KpQ a c := h.trans ⟨k.below.size, fun _ _ _ _ e _ _ => k.obj e⟩
theorem KpQ.setCell {a b : World} (h : KpQ a b) {g o : Nat} {cs : Array Value} {T : TypeId} {fr : Nat × Nat} (hg : b.heap[g]? = some (.cells cs T fr)) (hT : T = 123 ∨ T = 126) (u : Value) : KpQ a (b.setCell ⟨g, o, none⟩ u) := by
  refine h.trans ⟨by rw [World.size_setCell]; exact Nat.le_refl _, fun i cs' T' fr' e h1 h2 => ?_⟩
  have hi : i ≠ g := by
    intro hi; subst hi
    rw [hg] at e
    simp only [Option.some.injEq, Obj.cells.injEq] at e
    rcases hT with hT | hT
    · exact h1 (e.2.1.symm.trans hT)
    · exact h2 (e.2.1.symm.trans hT)
  exact (setCell_ne o hi u none).trans e
theorem Row.typ {α : Type} {w : World} {b0 sz : Nat} {T : TypeId} {f : α → List Value} {g n cap : Nat} {L : List α} (h : w.Row b0 T sz f (.slice (some ⟨g, 0, none⟩) n cap) L) : ∃ cs, w.heap[g]? = some (.cells cs T (0, 0)) := by
  rcases h.own.2 with ⟨h1, _⟩ | ⟨g', cap', cur, h0, h1, h2, h3⟩
  · cases h1
  · cases h0; exact ⟨_, h2⟩
theorem KpQ.grown {a b c : World} (h : KpQ a b) {base : Nat} {v : Value} {L : List QN} (hr : b.Row base 126 7 qnV v L) (hg : b.grownBy c v.ownBlock) : KpQ a c := by
  refine h.trans ⟨hg.size, fun i cs T fr e h1 h2 => grown_keep hg e fun hv => ?_⟩
  rcases hr.own.2 with ⟨rfl, _⟩ | ⟨g, cap, cur, rfl, _, h3, _⟩
  · cases hv
  · simp only [Value.ownBlock, Option.some.injEq] at hv
    subst hv
    rw [h3] at e
    simp only [Option.some.injEq, Obj.cells.injEq] at e
    exact h2 e.2.1.symm
/-- The queue in memory. -/
structure QAt (w : World) (base Bq : Nat) (L : List QN) : Prop where
  lb : base ≤ Bq
  v : ∃ v, w.heap[Bq]? = some (.cells #[v] 123 (0, 0)) ∧ w.Row base 126 7 qnV v L
theorem QAt.ex {w w' : World} {base Bq : Nat} {L : List QN} (h : QAt w base Bq L) (hx : Mix.Ex w w') : QAt w' base Bq L := by
  obtain ⟨h1, v, h2, h3⟩ := h
  exact ⟨h1, v, hx.obj h2, h3.ex hx⟩
theorem qn_write {w0 W : World} {base g n cap : Nat} {L : List QN} (hr : W.Row base 126 7 qnV (.slice (some ⟨g, 0, none⟩) n cap) L) (hn : L.length = n) {k : Nat} (hk : k < n) (y : QN) {w : World} (hx : Mix.Ex w0 W) (h0 : w0.heap.size ≤ base) (hq : KpQ w W) :
    (((((((W.setCell ⟨g, k * 7, none⟩ (.float .f64 (floatOfInt .f64 (y.d : Int)))).setCell ⟨g, k * 7 + 1, none⟩ (.int .i64 y.r.x0)).setCell ⟨g, k * 7 + 2, none⟩ (.int .i64 y.r.y0)).setCell ⟨g, k * 7 + 3, none⟩ (.int .i64 y.r.x1)).setCell ⟨g, k * 7 + 4, none⟩ (.int .i64 y.r.y1)).setCell ⟨g, k * 7 + 5, none⟩ (.int .i64 y.v)).setCell ⟨g, k * 7 + 6, none⟩ (.pointer y.p)).Row base 126 7 qnV (.slice (some ⟨g, 0, none⟩) n cap) (L.set k y) ∧ Mix.Ex w0 (((((((W.setCell ⟨g, k * 7, none⟩ (.float .f64 (floatOfInt .f64 (y.d : Int)))).setCell ⟨g, k * 7 + 1, none⟩ (.int .i64 y.r.x0)).setCell ⟨g, k * 7 + 2, none⟩ (.int .i64 y.r.y0)).setCell ⟨g, k * 7 + 3, none⟩ (.int .i64 y.r.x1)).setCell ⟨g, k * 7 + 4, none⟩ (.int .i64 y.r.y1)).setCell ⟨g, k * 7 + 5, none⟩ (.int .i64 y.v)).setCell ⟨g, k * 7 + 6, none⟩ (.pointer y.p)) ∧ KpQ w (((((((W.setCell ⟨g, k * 7, none⟩ (.float .f64 (floatOfInt .f64 (y.d : Int)))).setCell ⟨g, k * 7 + 1, none⟩ (.int .i64 y.r.x0)).setCell ⟨g, k * 7 + 2, none⟩ (.int .i64 y.r.y0)).setCell ⟨g, k * 7 + 3, none⟩ (.int .i64 y.r.x1)).setCell ⟨g, k * 7 + 4, none⟩ (.int .i64 y.r.y1)).setCell ⟨g, k * 7 + 5, none⟩ (.int .i64 y.v)).setCell ⟨g, k * 7 + 6, none⟩ (.pointer y.p)) ∧ ∀ b, b ≠ g → (((((((W.setCell ⟨g, k * 7, none⟩ (.float .f64 (floatOfInt .f64 (y.d : Int)))).setCell ⟨g, k * 7 + 1, none⟩ (.int .i64 y.r.x0)).setCell ⟨g, k * 7 + 2, none⟩ (.int .i64 y.r.y0)).setCell ⟨g, k * 7 + 3, none⟩ (.int .i64 y.r.x1)).setCell ⟨g, k * 7 + 4, none⟩ (.int .i64 y.r.y1)).setCell ⟨g, k * 7 + 5, none⟩ (.int .i64 y.v)).setCell ⟨g, k * 7 + 6, none⟩ (.pointer y.p)).heap[b]? = W.heap[b]? := by
  obtain ⟨cs, hc⟩ := Row.typ hr
  have hg0 : w0.heap.size ≤ g := Nat.le_trans h0 (hr.lt g rfl).1
  refine ⟨Row.setQN hr hn hk y, ?_, ?_, fun b hb => ?_⟩
  · exact (((((((hx.setCell (p := ⟨g, k * 7, none⟩) hg0 (.float .f64 (floatOfInt .f64 (y.d : Int)))).setCell (p := ⟨g, k * 7 + 1, none⟩) hg0 (.int .i64 y.r.x0)).setCell (p := ⟨g, k * 7 + 2, none⟩) hg0 (.int .i64 y.r.y0)).setCell (p := ⟨g, k * 7 + 3, none⟩) hg0 (.int .i64 y.r.x1)).setCell (p := ⟨g, k * 7 + 4, none⟩) hg0 (.int .i64 y.r.y1)).setCell (p := ⟨g, k * 7 + 5, none⟩) hg0 (.int .i64 y.v)).setCell (p := ⟨g, k * 7 + 6, none⟩) hg0 (.pointer y.p))
  · exact (((((((hq.setCell (o := k * 7) hc (.inr rfl) (.float .f64 (floatOfInt .f64 (y.d : Int)))).setCell (o := k * 7 + 1) (setCell_obj hc (k * 7) (.float .f64 (floatOfInt .f64 (y.d : Int)))) (.inr rfl) (.int .i64 y.r.x0)).setCell (o := k * 7 + 2) (setCell_obj (setCell_obj hc (k * 7) (.float .f64 (floatOfInt .f64 (y.d : Int)))) (k * 7 + 1) (.int .i64 y.r.x0)) (.inr rfl) (.int .i64 y.r.y0)).setCell (o := k * 7 + 3) (setCell_obj (setCell_obj (setCell_obj hc (k * 7) (.float .f64 (floatOfInt .f64 (y.d : Int)))) (k * 7 + 1) (.int .i64 y.r.x0)) (k * 7 + 2) (.int .i64 y.r.y0)) (.inr rfl) (.int .i64 y.r.x1)).setCell (o := k * 7 + 4) (setCell_obj (setCell_obj (setCell_obj (setCell_obj hc (k * 7) (.float .f64 (floatOfInt .f64 (y.d : Int)))) (k * 7 + 1) (.int .i64 y.r.x0)) (k * 7 + 2) (.int .i64 y.r.y0)) (k * 7 + 3) (.int .i64 y.r.x1)) (.inr rfl) (.int .i64 y.r.y1)).setCell (o := k * 7 + 5) (setCell_obj (setCell_obj (setCell_obj (setCell_obj (setCell_obj hc (k * 7) (.float .f64 (floatOfInt .f64 (y.d : Int)))) (k * 7 + 1) (.int .i64 y.r.x0)) (k * 7 + 2) (.int .i64 y.r.y0)) (k * 7 + 3) (.int .i64 y.r.x1)) (k * 7 + 4) (.int .i64 y.r.y1)) (.inr rfl) (.int .i64 y.v)).setCell (o := k * 7 + 6) (setCell_obj (setCell_obj (setCell_obj (setCell_obj (setCell_obj (setCell_obj hc (k * 7) (.float .f64 (floatOfInt .f64 (y.d : Int)))) (k * 7 + 1) (.int .i64 y.r.x0)) (k * 7 + 2) (.int .i64 y.r.y0)) (k * 7 + 3) (.int .i64 y.r.x1)) (k * 7 + 4) (.int .i64 y.r.y1)) (k * 7 + 5) (.int .i64 y.v)) (.inr rfl) (.pointer y.p))
  · exact ((setCell_ne (k * 7 + 6) hb (.pointer y.p) none).trans ((setCell_ne (k * 7 + 5) hb (.int .i64 y.v) none).trans ((setCell_ne (k * 7 + 4) hb (.int .i64 y.r.y1) none).trans ((setCell_ne (k * 7 + 3) hb (.int .i64 y.r.x1) none).trans ((setCell_ne (k * 7 + 2) hb (.int .i64 y.r.y0) none).trans ((setCell_ne (k * 7 + 1) hb (.int .i64 y.r.x0) none).trans (setCell_ne (k * 7) hb (.float .f64 (floatOfInt .f64 (y.d : Int))) none)))))))
set_option maxRecDepth 100000 in
set_option maxHeartbeats 3200000 in
theorem push_c (w0 w : World) (base Bq : Nat) (L : List QN) (x : QN) (hQ : QAt w base Bq L) (hl : L.length ≤ 900000) (hk : ∀ y ∈ L, y.d < 2 ^ 53) (hxd : x.d < 2 ^ 53) (hh : IsHeap QN.d L) (hx0 : Mix.Ex w0 w) (h0 : w0.heap.size ≤ base) :
    Calls Try.prog 74 #[.pointer (some ⟨Bq, 0, none⟩), .agg #[.float .f64 (floatOfInt .f64 (x.d : Int)), .int .i64 x.r.x0, .int .i64 x.r.y0, .int .i64 x.r.x1, .int .i64 x.r.y1, .int .i64 x.v, .pointer x.p]] w fun e w' => e = .returned (.tuple #[]) ∧ ∃ L', L'.Perm (x :: L) ∧ IsHeap QN.d L' ∧ QAt w' base Bq L' ∧ Mix.Ex w0 w' ∧ KpQ w w' := by
  obtain ⟨i0, hi0, hz0, hz1, hz2⟩ := info_parts info_qn
  obtain ⟨lb, v, hv, hr⟩ := hQ
  obtain ⟨n, hn⟩ : ∃ n, L.length = n := ⟨_, rfl⟩
  have hBlt := (Array.getElem?_eq_some_iff.1 hv).1
  have hvB : ∀ k, v.ownBlock = some k → k ≠ Bq ∧ base ≤ k ∧ k < w.heap.size := fun k hk => ⟨by
    rintro rfl
    rcases hr.own.2 with ⟨rfl, _⟩ | ⟨g, cap, cur, rfl, _, h2, _⟩
    · cases hk
    · simp only [Value.ownBlock, Option.some.injEq] at hk
      subst hk
      rw [h2] at hv
      simp only [Option.some.injEq, Obj.cells.injEq] at hv
      exact absurd hv.2.1 (by decide), (hr.lt k hk).1, (hr.lt k hk).2⟩
  have hxa := (Mix.Ex.refl w).alloc (.cells #[.float .f64 (floatOfInt .f64 (x.d : Int)), .int .i64 x.r.x0, .int .i64 x.r.y0, .int .i64 x.r.x1, .int .i64 x.r.y1, .int .i64 x.v, .pointer x.p] 126)
  have n3 := heap_alloc_new w (.cells #[.float .f64 (floatOfInt .f64 (x.d : Int)), .int .i64 x.r.x0, .int .i64 x.r.y0, .int .i64 x.r.x1, .int .i64 x.r.y1, .int .i64 x.v, .pointer x.p] 126)
  have HV := Lib.hid (hxa.obj hv)
  have HR := Lib.hid (hr.ex hxa)
  have HXA := Lib.hid (hx0.trans hxa)
  have HQA := Lib.hid ((KpQ.refl w).ex hxa)
  have HVB := Lib.hid hvB
  have hu0 := push_up QN.d hh (x := x)
  rw [hn] at hu0
  have HU0 := Lib.hid hu0
  clear hu0 hh hx0 hvB hv hr
  go_enter Try.func74, Try.ntmps74
  go_upto_region 1 with (fail)
  change Code.wp _ _ _ _ (w.alloc (.cells #[.float .f64 (floatOfInt .f64 (x.d : Int)), .int .i64 x.r.x0, .int .i64 x.r.y0, .int .i64 x.r.x1, .int .i64 x.r.y1, .int .i64 x.v, .pointer x.p] 126))
  obtain ⟨B3, hB3⟩ : ∃ B3, w.heap.size = B3 := ⟨_, rfl⟩
  rw [hB3] at n3 hBlt ⊢
  have hvB3 : ∀ k, v.ownBlock = some k → k < B3 := fun k hk => hB3 ▸ (HVB.out k hk).2.2
  have hsz3 : (w.alloc (.cells #[.float .f64 (floatOfInt .f64 (x.d : Int)), .int .i64 x.r.x0, .int .i64 x.r.y0, .int .i64 x.r.x1, .int .i64 x.r.y1, .int .i64 x.v, .pointer x.p] 126)).heap.size = B3 + 1 := by rw [← hB3]; exact World.size_alloc _ _
  generalize (w.alloc (.cells #[.float .f64 (floatOfInt .f64 (x.d : Int)), .int .i64 x.r.x0, .int .i64 x.r.y0, .int .i64 x.r.x1, .int .i64 x.r.y1, .int .i64 x.v, .pointer x.p] 126)) = w1 at n3 HV HR HXA HQA hxa hsz3 ⊢
  have a0 : (w1.drewN 1).cell? ⟨Bq, 0, none⟩ = some v := by show w1.cell? _ = _; rw [cellOf HV.out]; rfl
  have b0 : (w1.drewN 1).cell? ⟨B3, 0, none⟩ = some (.float .f64 (floatOfInt .f64 (x.d : Int))) := by show w1.cell? _ = _; rw [cellOf n3]; rfl
  have b1 : (w1.drewN 1).cell? ⟨B3, 1, none⟩ = some (.int .i64 x.r.x0) := by show w1.cell? _ = _; rw [cellOf n3]; rfl
  have b2 : (w1.drewN 1).cell? ⟨B3, 2, none⟩ = some (.int .i64 x.r.y0) := by show w1.cell? _ = _; rw [cellOf n3]; rfl
  have b3 : (w1.drewN 1).cell? ⟨B3, 3, none⟩ = some (.int .i64 x.r.x1) := by show w1.cell? _ = _; rw [cellOf n3]; rfl
  have b4 : (w1.drewN 1).cell? ⟨B3, 4, none⟩ = some (.int .i64 x.r.y1) := by show w1.cell? _ = _; rw [cellOf n3]; rfl
  have b5 : (w1.drewN 1).cell? ⟨B3, 5, none⟩ = some (.int .i64 x.v) := by show w1.cell? _ = _; rw [cellOf n3]; rfl
  have b6 : (w1.drewN 1).cell? ⟨B3, 6, none⟩ = some (.pointer x.p) := by show w1.cell? _ = _; rw [cellOf n3]; rfl
  have HC := And.intro a0 (And.intro b0 (And.intro b1 (And.intro b2 (And.intro b3 (And.intro b4 (And.intro b5 b6))))))
  clear a0 b0 b1 b2 b3 b4 b5 b6
  refine wp_region_K (fun W => W.cell? ⟨Bq, 0, none⟩ = some v ∧ W.cell? ⟨B3, 0, none⟩ = some (.float .f64 (floatOfInt .f64 (x.d : Int))) ∧ W.cell? ⟨B3, 1, none⟩ = some (.int .i64 x.r.x0) ∧ W.cell? ⟨B3, 2, none⟩ = some (.int .i64 x.r.y0) ∧ W.cell? ⟨B3, 3, none⟩ = some (.int .i64 x.r.x1) ∧ W.cell? ⟨B3, 4, none⟩ = some (.int .i64 x.r.y1) ∧ W.cell? ⟨B3, 5, none⟩ = some (.int .i64 x.v) ∧ W.cell? ⟨B3, 6, none⟩ = some (.pointer x.p)) 7 (by kernel_rfl) ?_
  change wpAnyK _ _ _ _ _ 9 (Array.replicate 9 false) _ _
  (refine wpAnyK_take (i := 0) (oi := ?_) (v := ?_) ?_ ?_ ?_ ?_ ?_ ?_ ?_ ?_ ?_; rotate_left 2; (focus (simp only [List.getElem?_toArray, List.getElem?_cons_zero, List.getElem?_cons_succ]; rfl)); (focus kernel_rfl); (focus kernel_rfl); (focus kernel_rfl); (focus kernel_rfl); (focus exact fun _ _ _ h => h); (focus (refine Or.inl ⟨by rfl, ?_⟩; intro W hW; (try dsimp only at hW); go_simp; try with_reducible rfl)); (focus exact HC); (try simp only [Act.put, List.setIfInBounds_toArray, List.set_cons_zero, List.set_cons_succ]))
  (refine wpAnyK_take (i := 1) (oi := ?_) (v := ?_) ?_ ?_ ?_ ?_ ?_ ?_ ?_ ?_ ?_; rotate_left 2; (focus (simp only [List.getElem?_toArray, List.getElem?_cons_zero, List.getElem?_cons_succ]; rfl)); (focus kernel_rfl); (focus kernel_rfl); (focus kernel_rfl); (focus kernel_rfl); (focus exact fun _ _ _ h => h); (focus (refine Or.inl ⟨by rfl, ?_⟩; intro W hW; (try dsimp only at hW); go_simp; try with_reducible rfl)); (focus exact HC); (try simp only [Act.put, List.setIfInBounds_toArray, List.set_cons_zero, List.set_cons_succ]))
  (refine wpAnyK_take (i := 2) (oi := ?_) (v := ?_) ?_ ?_ ?_ ?_ ?_ ?_ ?_ ?_ ?_; rotate_left 2; (focus (simp only [List.getElem?_toArray, List.getElem?_cons_zero, List.getElem?_cons_succ]; rfl)); (focus kernel_rfl); (focus kernel_rfl); (focus kernel_rfl); (focus kernel_rfl); (focus exact fun _ _ _ h => h); (focus (refine Or.inl ⟨by rfl, ?_⟩; intro W hW; (try dsimp only at hW); go_simp; try with_reducible rfl)); (focus exact HC); (try simp only [Act.put, List.setIfInBounds_toArray, List.set_cons_zero, List.set_cons_succ]))
  (refine wpAnyK_take (i := 3) (oi := ?_) (v := ?_) ?_ ?_ ?_ ?_ ?_ ?_ ?_ ?_ ?_; rotate_left 2; (focus (simp only [List.getElem?_toArray, List.getElem?_cons_zero, List.getElem?_cons_succ]; rfl)); (focus kernel_rfl); (focus kernel_rfl); (focus kernel_rfl); (focus kernel_rfl); (focus exact fun _ _ _ h => h); (focus (refine Or.inl ⟨by rfl, ?_⟩; intro W hW; (try dsimp only at hW); go_simp; try with_reducible rfl)); (focus exact HC); (try simp only [Act.put, List.setIfInBounds_toArray, List.set_cons_zero, List.set_cons_succ]))
  (refine wpAnyK_take (i := 4) (oi := ?_) (v := ?_) ?_ ?_ ?_ ?_ ?_ ?_ ?_ ?_ ?_; rotate_left 2; (focus (simp only [List.getElem?_toArray, List.getElem?_cons_zero, List.getElem?_cons_succ]; rfl)); (focus kernel_rfl); (focus kernel_rfl); (focus kernel_rfl); (focus kernel_rfl); (focus exact fun _ _ _ h => h); (focus (refine Or.inl ⟨by rfl, ?_⟩; intro W hW; (try dsimp only at hW); go_simp; try with_reducible rfl)); (focus exact HC); (try simp only [Act.put, List.setIfInBounds_toArray, List.set_cons_zero, List.set_cons_succ]))
  clear HC
  have hv2 : (w1.drewN 1).heap[Bq]? = _ := HV.out
  have n32 : (w1.drewN 1).heap[B3]? = _ := n3
  have hr2 := HR.out.ex ((Mix.Ex.refl w1).drewN 1)
  have hx2 := HXA.out.drewN 1
  have hq2 := HQA.out.ex ((Mix.Ex.refl w1).drewN 1)
  have hsz2 : (w1.drewN 1).heap.size = B3 + 1 := hsz3
  clear n3 HV HR HXA HQA hxa hsz3
  generalize w1.drewN 1 = w2 at hv2 n32 hr2 hx2 hq2 hsz2 ⊢
  have MKC : ∀ W : World, W.heap[Bq]? = some (.cells #[v] 123 (0, 0)) → W.heap[B3]? = some (.cells #[.float .f64 (floatOfInt .f64 (x.d : Int)), .int .i64 x.r.x0, .int .i64 x.r.y0, .int .i64 x.r.x1, .int .i64 x.r.y1, .int .i64 x.v, .pointer x.p] 126 (0, 0)) → (W.cell? ⟨Bq, 0, none⟩ = some v ∧ W.cell? ⟨B3, 0, none⟩ = some (.float .f64 (floatOfInt .f64 (x.d : Int))) ∧ W.cell? ⟨B3, 1, none⟩ = some (.int .i64 x.r.x0) ∧ W.cell? ⟨B3, 2, none⟩ = some (.int .i64 x.r.y0) ∧ W.cell? ⟨B3, 3, none⟩ = some (.int .i64 x.r.x1) ∧ W.cell? ⟨B3, 4, none⟩ = some (.int .i64 x.r.y1) ∧ W.cell? ⟨B3, 5, none⟩ = some (.int .i64 x.v) ∧ W.cell? ⟨B3, 6, none⟩ = some (.pointer x.p)) := fun W h1 h2 => ⟨by rw [cellOf h1]; rfl, by rw [cellOf h2]; rfl, by rw [cellOf h2]; rfl, by rw [cellOf h2]; rfl, by rw [cellOf h2]; rfl, by rw [cellOf h2]; rfl, by rw [cellOf h2]; rfl, by rw [cellOf h2]; rfl⟩
  have hxb := (Mix.Ex.refl w2).alloc (.cells #[.float .f64 (floatOfInt .f64 (x.d : Int)), .int .i64 x.r.x0, .int .i64 x.r.y0, .int .i64 x.r.x1, .int .i64 x.r.y1, .int .i64 x.v, .pointer x.p] 126)
  have n4 := heap_alloc_new w2 (.cells #[.float .f64 (floatOfInt .f64 (x.d : Int)), .int .i64 x.r.x0, .int .i64 x.r.y0, .int .i64 x.r.x1, .int .i64 x.r.y1, .int .i64 x.v, .pointer x.p] 126)
  have C3 := Lib.hid (MKC _ (hxb.obj hv2) (hxb.obj n32))
  have hv3 := hxb.obj hv2
  have n33 := hxb.obj n32
  have hr3 := hr2.ex hxb
  have hx3 := hx2.trans hxb
  have hq3 := hq2.ex hxb
  clear hv2 n32 hr2 hx2 hq2 hxb
  have HV3 := Lib.hid hv3
  have HN33 := Lib.hid n33
  have HR3 := Lib.hid hr3
  have HX3 := Lib.hid hx3
  have HQ3 := Lib.hid hq3
  have HN4 := Lib.hid n4
  clear hv3 n33 hr3 hx3 hq3 n4
  (refine wpAnyK_one (i := 5) (o := ?_) ?_ ?_ ?_ (fun K hK => ?_); rotate_left 1; (focus kernel_rfl); (focus (simp only [List.getElem?_toArray, List.getElem?_cons_zero, List.getElem?_cons_succ]; rfl)); (focus rfl))
  go_simp
  refine hK _ _ (fun _ => C3.out) ?_
  clear hK K C3
  rw [hsz2] at HN4
  have hsz3 : (w2.alloc (.cells #[.float .f64 (floatOfInt .f64 (x.d : Int)), .int .i64 x.r.x0, .int .i64 x.r.y0, .int .i64 x.r.x1, .int .i64 x.r.y1, .int .i64 x.v, .pointer x.p] 126)).heap.size = B3 + 2 := by rw [World.size_alloc, hsz2]
  generalize (w2.alloc (.cells #[.float .f64 (floatOfInt .f64 (x.d : Int)), .int .i64 x.r.x0, .int .i64 x.r.y0, .int .i64 x.r.x1, .int .i64 x.r.y1, .int .i64 x.v, .pointer x.p] 126)) = w3 at HV3 HN33 HR3 HX3 HQ3 HN4 hsz3 ⊢
  clear hsz2
  (refine wpAnyK_one (i := 6) (o := ?_) ?_ ?_ ?_ (fun K hK => ?_); rotate_left 1; (focus kernel_rfl); (focus (simp only [List.getElem?_toArray, List.getElem?_cons_zero, List.getElem?_cons_succ]; rfl)); (focus rfl))
  refine wp_append_row (.tmp 10) (.tmp 12) 123 rfl base 126 i0 _ 7 56 Try.underlying123 hi0 hz0 hz1 hz2 rfl (by omega) qnV v L x rfl HR3.out ⟨B3 + 1, 0, none⟩ 1 rfl (news_of_cells (vs := qnV x) HN4.out) (qnV_one x) (by unfold maxLen; omega) (by omega) (by omega) ?_
  intro g cap w4 hr4 hg4 ho4 hlt4
  have hv4 := grown_keep hg4 HV3.out (fun e => (HVB.out _ e).1 rfl)
  have n34 := grown_keep hg4 HN33.out (fun e => by have := hvB3 _ e; omega)
  have C4 := Lib.hid (MKC _ hv4 n34)
  have hx4 := HX3.out.grown hg4 (fun k hk => by have := (HVB.out k hk).2.1; omega)
  have hq4 := HQ3.out.grown HR3.out hg4
  have hgB : g ≠ Bq := by
    rcases ho4 with h | h
    · exact (HVB.out g h).1
    · omega
  refine hK _ _ (fun _ => C4.out) ?_
  clear hK K C4 MKC n34 HN33 HN4 HV3 HR3 HX3 HQ3 hg4 ho4
  obtain ⟨m, hm⟩ : ∃ m, n + 1 = m := ⟨_, rfl⟩
  rw [hn, hm] at hr4 ⊢
  (refine wpAnyK_one (i := 7) (o := ?_) ?_ ?_ ?_ (fun K hK => ?_); rotate_left 1; (focus kernel_rfl); (focus (simp only [List.getElem?_toArray, List.getElem?_cons_zero, List.getElem?_cons_succ]; rfl)); (focus rfl))
  go_simp
  refine hK _ _ (fun h => absurd h (by decide +kernel)) ?_
  clear hK K
  have a0 := cellOf hv4 0
  have f0 := frzOf hv4 0
  simp only [List.getElem?_toArray, List.getElem?_cons_zero, List.getElem?_cons_succ] at a0
  have hv5 := setCell_obj hv4 0 (.slice (some ⟨g, 0, none⟩) m cap)
  simp only [List.setIfInBounds_toArray, List.set_cons_zero, List.set_cons_succ] at hv5
  have hr5 : (w4.setCell ⟨Bq, 0, none⟩ (.slice (some ⟨g, 0, none⟩) m cap)).Row base 126 7 qnV (.slice (some ⟨g, 0, none⟩) m cap) (L ++ [x]) := hr4.of_block fun k hk => by
    simp only [Value.ownBlock, Option.some.injEq] at hk
    subst hk
    exact setCell_ne 0 hgB _ none
  have hx5 := hx4.setCell (p := ⟨Bq, 0, none⟩) (by dsimp only; omega) (.slice (some ⟨g, 0, none⟩) m cap)
  have hq5 := hq4.setCell (o := 0) hv4 (.inl rfl) (.slice (some ⟨g, 0, none⟩) m cap)
  have HV5 := Lib.hid hv5
  have HR5 := Lib.hid hr5
  have HX5 := Lib.hid hx5
  have HQ5 := Lib.hid hq5
  clear hv4 hr4 hx4 hq4 hv5 hr5 hx5 hq5
  (refine wpAnyK_one (i := 8) (o := ?_) ?_ ?_ ?_ (fun K hK => ?_); rotate_left 1; (focus kernel_rfl); (focus (simp only [List.getElem?_toArray, List.getElem?_cons_zero, List.getElem?_cons_succ]; rfl)); (focus rfl))
  go_simp
  refine hK _ _ (fun h => absurd h (by decide +kernel)) ?_
  clear hK K a0 f0
  refine wpAnyK_done (by kernel_rfl) ?_ _
  generalize (w4.setCell ⟨Bq, 0, none⟩ (.slice (some ⟨g, 0, none⟩) m cap)) = w5 at HV5 HR5 HX5 HQ5 ⊢
  have a0 := cellOf HV5.out 0
  simp only [List.getElem?_toArray, List.getElem?_cons_zero, List.getElem?_cons_succ] at a0
  have i1 : (m : Int) - 1 = n := by omega
  obtain ⟨pp, hpp⟩ : ∃ pp, (n - 1) / 2 = pp := ⟨_, rfl⟩
  have i2 : Int.tdiv ((n : Int) - 1) 2 = pp := by
    rw [← hpp]
    rcases Nat.eq_zero_or_pos n with h | h
    · subst h; rfl
    · rw [show ((n : Int) - 1) = ((n - 1 : Nat) : Int) by omega]; exact (Int.ofNat_tdiv _ _).symm
  go_upto_region 5 with (fail)
  clear i1 i2 a0
  have HKD : Hid (∀ y ∈ L ++ [x], y.d < 2 ^ 53) := Lib.hid fun y hy => by
    rcases List.mem_append.1 hy with h | h
    · exact hk y h
    · rw [List.mem_singleton.1 h]; exact hxd
  have HBG : Hid (Bq ≠ g) := Lib.hid (Ne.symm hgB)
  go_loopw [5, 6] (fun i p wr => ∃ k q : Nat, k < m ∧ (k - 1) / 2 = q ∧ i = .int .i64 k ∧ p = .int .i64 q ∧ (∃ M, wr.Row base 126 7 qnV (.slice (some ⟨g, 0, none⟩) m cap) M ∧ M.Perm (L ++ [x]) ∧ HeapUp (kyL QN.d M) m k) ∧ wr.heap[Bq]? = some (.cells #[.slice (some ⟨g, 0, none⟩) m cap] 123 (0, 0)) ∧ Mix.Ex w0 wr ∧ KpQ w wr) (fun i _ _ => (intOf i).toNat)
  case atStart => exact ⟨n, pp, by omega, hpp, rfl, rfl, ⟨_, HR5.out, List.Perm.refl _, by rw [← hm]; exact HU0.out⟩, HV5.out, HX5.out, HQ5.out⟩
  case round =>
    obtain ⟨k, q, hkm, hq, rfl, rfl, ⟨M, hrow, hpm, hup⟩, hbq, hx, hkq⟩ := hrel
    have hml : M.length = m := by rw [hpm.length_eq, List.length_append, List.length_singleton, hn]; exact hm
    have HML := Lib.hid hml
    have HPM := Lib.hid hpm
    clear hml hpm
    by_cases hk0 : k = 0
    · subst hk0
      have hH : IsHeap QN.d M := by unfold IsHeap; rw [HML.out]; exact hup.done (.inl rfl)
      have HH := Lib.hid hH
      have HROW := Lib.hid hrow
      have HX := Lib.hid hx
      have HV := Lib.hid hbq
      have HQ := Lib.hid hkq
      clear hH hrow hx hbq hkq hup
      go_upto_region 5 with (fail)
      (refine Mix.wp_region_dr (by kernel_rfl) (by kernel_rfl) ?_; (repeat (go_big_quiet_step (fail))); refine wpQuiet_nil ?_; intro nq)
      go_wp2_with fail
      go_end0
      exact ⟨rfl, M, HPM.out.trans (List.perm_append_singleton _ _), HH.out, ⟨lb, _, HV.out, HROW.out.ex ((Mix.Ex.refl _).drewN _)⟩, HX.out.drewN _, HQ.out.ex ((Mix.Ex.refl _).drewN _)⟩
    obtain ⟨y, hy⟩ : ∃ y, M[k]? = some y := ⟨M[k]'(by have := HML.out; omega), List.getElem?_eq_getElem _⟩
    obtain ⟨z, hz⟩ : ∃ z, M[q]? = some z := ⟨M[q]'(by have := HML.out; omega), List.getElem?_eq_getElem _⟩
    have hyd := HKD.out y (HPM.out.mem_iff.1 (List.mem_of_getElem? hy))
    have hzd := HKD.out z (HPM.out.mem_iff.1 (List.mem_of_getElem? hz))
    have hgt := fl_gt z.d y.d hzd hyd
    have hky : kyL QN.d M k = y.d := kyL_get _ hy
    have hkz : kyL QN.d M q = z.d := kyL_get _ hz
    have hyf := (row_cells7 hrow hy).1
    have hzf := (row_cells7 hrow hz).1
    have hjk1 : (q : Int) < m := by omega
    have hjk2 : (k : Int) < m := by omega
    have hk0i : ((k : Int) != 0) = true := by simp; omega
    have hk0j : (k : Int) ≠ 0 := by omega
    have HY := Lib.hid hy
    have HZ := Lib.hid hz
    have HROW := Lib.hid hrow
    have HX := Lib.hid hx
    have HV := Lib.hid hbq
    have HQ := Lib.hid hkq
    have HKY := Lib.hid hky
    have HKZ := Lib.hid hkz
    have HUP := Lib.hid hup
    clear hy hz hrow hx hbq hkq hky hkz hup hyd hzd
    by_cases hlt : y.d < z.d
    case neg =>
      rw [decide_eq_false hlt] at hgt
      have hH : IsHeap QN.d M := by
        unfold IsHeap; rw [HML.out]
        refine HUP.out.done (.inr ?_)
        rw [hq, HKY.out, HKZ.out]; omega
      have HH := Lib.hid hH
      clear hH
      go_upto_region 5 with (fail)
      (refine Mix.wp_region_dr (by kernel_rfl) (by kernel_rfl) ?_; (repeat (go_big_quiet_step (fail))); refine wpQuiet_nil ?_; intro nq)
      go_wp2_with fail
      go_end0
      exact ⟨rfl, M, HPM.out.trans (List.perm_append_singleton _ _), HH.out, ⟨lb, _, HV.out, HROW.out.ex ((Mix.Ex.refl _).drewN _)⟩, HX.out.drewN _, HQ.out.ex ((Mix.Ex.refl _).drewN _)⟩
    rw [decide_eq_true hlt] at hgt
    go_upto_region 5 with (fail)
    (refine Mix.wp_region_dr (by kernel_rfl) (by kernel_rfl) ?_; (repeat (go_big_quiet_step (fail))); refine wpQuiet_nil ?_; intro nq)
    have HROW9 := Lib.hid (HROW.out.ex ((Mix.Ex.refl wr).drewN nq))
    have HX9 := Lib.hid (HX.out.drewN nq)
    have HQ9 := Lib.hid (HQ.out.ex ((Mix.Ex.refl wr).drewN nq))
    have HV9 : Hid ((wr.drewN nq).heap[Bq]? = _) := Lib.hid HV.out
    clear HROW HX HQ HV hyf hzf
    generalize wr.drewN nq = w9 at HROW9 HX9 HQ9 HV9 ⊢
    go_upto_region 7 with (fail)
    obtain ⟨a0, a1, a2, a3, a4, a5, a6⟩ := row_cells7 HROW9.out HY.out
    obtain ⟨c0, c1, c2, c3, c4, c5, c6⟩ := row_cells7 HROW9.out HZ.out
    have a0 : (w9.drewN 1).cell? _ = _ := a0
    have a1 : (w9.drewN 1).cell? _ = _ := a1
    have a2 : (w9.drewN 1).cell? _ = _ := a2
    have a3 : (w9.drewN 1).cell? _ = _ := a3
    have a4 : (w9.drewN 1).cell? _ = _ := a4
    have a5 : (w9.drewN 1).cell? _ = _ := a5
    have a6 : (w9.drewN 1).cell? _ = _ := a6
    have c0 : (w9.drewN 1).cell? _ = _ := c0
    have c1 : (w9.drewN 1).cell? _ = _ := c1
    have c2 : (w9.drewN 1).cell? _ = _ := c2
    have c3 : (w9.drewN 1).cell? _ = _ := c3
    have c4 : (w9.drewN 1).cell? _ = _ := c4
    have c5 : (w9.drewN 1).cell? _ = _ := c5
    have c6 : (w9.drewN 1).cell? _ = _ := c6
    have hrowA := HROW9.out.ex ((Mix.Ex.refl w9).drewN 1)
    have hxA := HX9.out.drewN 1
    have hqA := HQ9.out.ex ((Mix.Ex.refl w9).drewN 1)
    have hVA : (w9.drewN 1).heap[_]? = _ := HV9.out
    have HC : True := trivial
    refine wp_region_K (fun _ => True) 15 (by kernel_rfl) ?_
    change wpAnyK _ _ _ _ _ 16 (Array.replicate 16 false) _ _
    (refine wpAnyK_take (i := 0) (oi := ?_) (v := ?_) ?_ ?_ ?_ ?_ ?_ ?_ ?_ ?_ ?_; rotate_left 2; (focus (simp only [List.getElem?_toArray, List.getElem?_cons_zero, List.getElem?_cons_succ]; rfl)); (focus kernel_rfl); (focus kernel_rfl); (focus kernel_rfl); (focus kernel_rfl); (focus exact fun _ _ _ h => h); (focus (refine Or.inl ⟨by rfl, ?_⟩; intro W hW; (try dsimp only at hW); go_simp; try with_reducible rfl)); (focus exact HC); (try simp only [Act.put, List.setIfInBounds_toArray, List.set_cons_zero, List.set_cons_succ]))
    (refine wpAnyK_take (i := 1) (oi := ?_) (v := ?_) ?_ ?_ ?_ ?_ ?_ ?_ ?_ ?_ ?_; rotate_left 2; (focus (simp only [List.getElem?_toArray, List.getElem?_cons_zero, List.getElem?_cons_succ]; rfl)); (focus kernel_rfl); (focus kernel_rfl); (focus kernel_rfl); (focus kernel_rfl); (focus exact fun _ _ _ h => h); (focus (refine Or.inl ⟨by rfl, ?_⟩; intro W hW; (try dsimp only at hW); go_simp; try with_reducible rfl)); (focus exact HC); (try simp only [Act.put, List.setIfInBounds_toArray, List.set_cons_zero, List.set_cons_succ]))
    (refine wpAnyK_take (i := 2) (oi := ?_) (v := ?_) ?_ ?_ ?_ ?_ ?_ ?_ ?_ ?_ ?_; rotate_left 2; (focus (simp only [List.getElem?_toArray, List.getElem?_cons_zero, List.getElem?_cons_succ]; rfl)); (focus kernel_rfl); (focus kernel_rfl); (focus kernel_rfl); (focus kernel_rfl); (focus exact fun _ _ _ h => h); (focus (refine Or.inl ⟨by rfl, ?_⟩; intro W hW; (try dsimp only at hW); go_simp; try with_reducible rfl)); (focus exact HC); (try simp only [Act.put, List.setIfInBounds_toArray, List.set_cons_zero, List.set_cons_succ]))
    (refine wpAnyK_take (i := 3) (oi := ?_) (v := ?_) ?_ ?_ ?_ ?_ ?_ ?_ ?_ ?_ ?_; rotate_left 2; (focus (simp only [List.getElem?_toArray, List.getElem?_cons_zero, List.getElem?_cons_succ]; rfl)); (focus kernel_rfl); (focus kernel_rfl); (focus kernel_rfl); (focus kernel_rfl); (focus exact fun _ _ _ h => h); (focus (refine Or.inl ⟨by rfl, ?_⟩; intro W hW; (try dsimp only at hW); go_simp; try with_reducible rfl)); (focus exact HC); (try simp only [Act.put, List.setIfInBounds_toArray, List.set_cons_zero, List.set_cons_succ]))
    (refine wpAnyK_take (i := 4) (oi := ?_) (v := ?_) ?_ ?_ ?_ ?_ ?_ ?_ ?_ ?_ ?_; rotate_left 2; (focus (simp only [List.getElem?_toArray, List.getElem?_cons_zero, List.getElem?_cons_succ]; rfl)); (focus kernel_rfl); (focus kernel_rfl); (focus kernel_rfl); (focus kernel_rfl); (focus exact fun _ _ _ h => h); (focus (refine Or.inl ⟨by rfl, ?_⟩; intro W hW; (try dsimp only at hW); go_simp; try with_reducible rfl)); (focus exact HC); (try simp only [Act.put, List.setIfInBounds_toArray, List.set_cons_zero, List.set_cons_succ]))
    (refine wpAnyK_take (i := 5) (oi := ?_) (v := ?_) ?_ ?_ ?_ ?_ ?_ ?_ ?_ ?_ ?_; rotate_left 2; (focus (simp only [List.getElem?_toArray, List.getElem?_cons_zero, List.getElem?_cons_succ]; rfl)); (focus kernel_rfl); (focus kernel_rfl); (focus kernel_rfl); (focus kernel_rfl); (focus exact fun _ _ _ h => h); (focus (refine Or.inl ⟨by rfl, ?_⟩; intro W hW; (try dsimp only at hW); go_simp; try with_reducible rfl)); (focus exact HC); (try simp only [Act.put, List.setIfInBounds_toArray, List.set_cons_zero, List.set_cons_succ]))
    (refine wpAnyK_take (i := 6) (oi := ?_) (v := ?_) ?_ ?_ ?_ ?_ ?_ ?_ ?_ ?_ ?_; rotate_left 2; (focus (simp only [List.getElem?_toArray, List.getElem?_cons_zero, List.getElem?_cons_succ]; rfl)); (focus kernel_rfl); (focus kernel_rfl); (focus kernel_rfl); (focus kernel_rfl); (focus exact fun _ _ _ h => h); (focus (refine Or.inl ⟨by rfl, ?_⟩; intro W hW; (try dsimp only at hW); go_simp; try with_reducible rfl)); (focus exact HC); (try simp only [Act.put, List.setIfInBounds_toArray, List.set_cons_zero, List.set_cons_succ]))
    (refine wpAnyK_take (i := 8) (oi := ?_) (v := ?_) ?_ ?_ ?_ ?_ ?_ ?_ ?_ ?_ ?_; rotate_left 2; (focus (simp only [List.getElem?_toArray, List.getElem?_cons_zero, List.getElem?_cons_succ]; rfl)); (focus kernel_rfl); (focus kernel_rfl); (focus kernel_rfl); (focus kernel_rfl); (focus exact fun _ _ _ h => h); (focus (refine Or.inl ⟨by rfl, ?_⟩; intro W hW; (try dsimp only at hW); go_simp; try with_reducible rfl)); (focus exact HC); (try simp only [Act.put, List.setIfInBounds_toArray, List.set_cons_zero, List.set_cons_succ]))
    (refine wpAnyK_take (i := 9) (oi := ?_) (v := ?_) ?_ ?_ ?_ ?_ ?_ ?_ ?_ ?_ ?_; rotate_left 2; (focus (simp only [List.getElem?_toArray, List.getElem?_cons_zero, List.getElem?_cons_succ]; rfl)); (focus kernel_rfl); (focus kernel_rfl); (focus kernel_rfl); (focus kernel_rfl); (focus exact fun _ _ _ h => h); (focus (refine Or.inl ⟨by rfl, ?_⟩; intro W hW; (try dsimp only at hW); go_simp; try with_reducible rfl)); (focus exact HC); (try simp only [Act.put, List.setIfInBounds_toArray, List.set_cons_zero, List.set_cons_succ]))
    (refine wpAnyK_take (i := 10) (oi := ?_) (v := ?_) ?_ ?_ ?_ ?_ ?_ ?_ ?_ ?_ ?_; rotate_left 2; (focus (simp only [List.getElem?_toArray, List.getElem?_cons_zero, List.getElem?_cons_succ]; rfl)); (focus kernel_rfl); (focus kernel_rfl); (focus kernel_rfl); (focus kernel_rfl); (focus exact fun _ _ _ h => h); (focus (refine Or.inl ⟨by rfl, ?_⟩; intro W hW; (try dsimp only at hW); go_simp; try with_reducible rfl)); (focus exact HC); (try simp only [Act.put, List.setIfInBounds_toArray, List.set_cons_zero, List.set_cons_succ]))
    generalize w9.drewN 1 = wA at a0 a1 a2 a3 a4 a5 a6 c0 c1 c2 c3 c4 c5 c6 hrowA hxA hqA hVA ⊢
    have HROWA := Lib.hid hrowA
    have HXA := Lib.hid hxA
    have HQA := Lib.hid hqA
    have HVA := Lib.hid hVA
    clear hVA
    clear hrowA hxA hqA
    refine wpAnyK_rgC (us := [7, 11]) (fun _ _ => True)
      (fun i v W => match i with
        | 7 => v = .agg #[.float .f64 (floatOfInt .f64 (y.d : Int)), .int .i64 y.r.x0, .int .i64 y.r.y0, .int .i64 y.r.x1, .int .i64 y.r.y1, .int .i64 y.v, .pointer y.p]
        | 11 => v = .agg #[.float .f64 (floatOfInt .f64 (z.d : Int)), .int .i64 z.r.x0, .int .i64 z.r.y0, .int .i64 z.r.x1, .int .i64 z.r.y1, .int .i64 z.v, .pointer z.p]
        | _ => True)
      (fun _ => Mix.Ex) (fun W => wA = W) (by kernel_rfl) 4 (fun _ _ => trivial) rfl (fun _ _ => trivial) (fun _ _ _ _ _ _ _ _ _ => trivial) ?_ ?_ ?_
    · intro i hi j' hj' hij v W W' hv hg
      simp only [List.mem_cons, List.not_mem_nil, or_false] at hi
      rcases hi with rfl | rfl
      · exact hv
      · exact hv
    · intro i hi
      simp only [List.mem_cons, List.not_mem_nil, or_false] at hi
      rcases hi with rfl | rfl
      · intro o ho v0 W hI hb hd K hK
        simp only [List.getElem?_toArray, List.getElem?_cons_zero, List.getElem?_cons_succ, Option.some.injEq] at ho
        subst ho
        simp only [putU, dstOf, List.getElem?_toArray, List.getElem?_cons_zero, List.getElem?_cons_succ, Option.bind_some, Act.put, List.setIfInBounds_toArray, List.set_cons_zero, List.set_cons_succ] at hK ⊢
        subst hI
        clear hd hb
        go_simp
        exact hK _ _ rfl (Mix.Ex.refl _) rfl
      · intro o ho v0 W hI hb hd K hK
        simp only [List.getElem?_toArray, List.getElem?_cons_zero, List.getElem?_cons_succ, Option.some.injEq] at ho
        subst ho
        simp only [putU, dstOf, List.getElem?_toArray, List.getElem?_cons_zero, List.getElem?_cons_succ, Option.bind_some, Act.put, List.setIfInBounds_toArray, List.set_cons_zero, List.set_cons_succ] at hK ⊢
        subst hI
        clear hd hb
        go_simp
        exact hK _ _ rfl (Mix.Ex.refl _) rfl
    intro v0 W hI hA
    subst hI
    have e9 : v0 7 = _ := hA 7 (by simp)
    have e13 : v0 11 = _ := hA 11 (by simp)
    clear hA
    simp only [putU, dstOf, List.getElem?_toArray, List.getElem?_cons_zero, List.getElem?_cons_succ, Option.bind_some, Act.put, List.setIfInBounds_toArray, List.set_cons_zero, List.set_cons_succ]
    rw [e9, e13]
    clear e9 e13 v0
    clear a0 a1 a2 a3 a4 a5 a6
    (refine wpAnyK_one (i := 12) (o := ?_) ?_ ?_ ?_ (fun K hK => ?_); rotate_left 1; (focus kernel_rfl); (focus (simp only [List.getElem?_toArray, List.getElem?_cons_zero, List.getElem?_cons_succ]; rfl)); (focus rfl))
    go_simp
    refine hK _ _ (fun _ => trivial) ?_
    clear hK K
    have f0 := Row.frz HROWA.out (q * 7)
    have f1 := Row.frz HROWA.out (q * 7 + 1)
    have f2 := Row.frz HROWA.out (q * 7 + 2)
    have f3 := Row.frz HROWA.out (q * 7 + 3)
    have f4 := Row.frz HROWA.out (q * 7 + 4)
    have f5 := Row.frz HROWA.out (q * 7 + 5)
    have f6 := Row.frz HROWA.out (q * 7 + 6)
    obtain ⟨r1, x1, q1, o1⟩ := qn_write HROWA.out HML.out (k := q) (by omega) y HXA.out h0 HQA.out
    have R1 := Lib.hid r1
    have X1 := Lib.hid x1
    have Q1 := Lib.hid q1
    have V1 := Lib.hid ((o1 _ HBG.out).trans HVA.out)
    clear r1 x1 q1 o1
    (refine wpAnyK_one (i := 13) (o := ?_) ?_ ?_ ?_ (fun K hK => ?_); rotate_left 1; (focus kernel_rfl); (focus (simp only [List.getElem?_toArray, List.getElem?_cons_zero, List.getElem?_cons_succ]; rfl)); (focus rfl))
    go_simp
    generalize (((((((wA.setCell ⟨g, q * 7, none⟩ (.float .f64 (floatOfInt .f64 (y.d : Int)))).setCell ⟨g, q * 7 + 1, none⟩ (.int .i64 y.r.x0)).setCell ⟨g, q * 7 + 2, none⟩ (.int .i64 y.r.y0)).setCell ⟨g, q * 7 + 3, none⟩ (.int .i64 y.r.x1)).setCell ⟨g, q * 7 + 4, none⟩ (.int .i64 y.r.y1)).setCell ⟨g, q * 7 + 5, none⟩ (.int .i64 y.v)).setCell ⟨g, q * 7 + 6, none⟩ (.pointer y.p)) = wB at R1 X1 Q1 V1 hK ⊢
    refine hK _ _ (fun _ => trivial) ?_
    clear hK K c0 c1 c2 c3 c4 c5 c6 f0 f1 f2 f3 f4 f5 f6
    (refine wpAnyK_one (i := 14) (o := ?_) ?_ ?_ ?_ (fun K hK => ?_); rotate_left 1; (focus kernel_rfl); (focus (simp only [List.getElem?_toArray, List.getElem?_cons_zero, List.getElem?_cons_succ]; rfl)); (focus rfl))
    go_simp
    refine hK _ _ (fun _ => trivial) ?_
    clear hK K
    have hyB : (M.set q y)[k]? = some y := by rw [List.getElem?_set_ne (by omega)]; exact HY.out
    obtain ⟨a0, a1, a2, a3, a4, a5, a6⟩ := row_cells7 R1.out hyB
    have f0 := Row.frz R1.out (k * 7)
    have f1 := Row.frz R1.out (k * 7 + 1)
    have f2 := Row.frz R1.out (k * 7 + 2)
    have f3 := Row.frz R1.out (k * 7 + 3)
    have f4 := Row.frz R1.out (k * 7 + 4)
    have f5 := Row.frz R1.out (k * 7 + 5)
    have f6 := Row.frz R1.out (k * 7 + 6)
    obtain ⟨r1, x1, q1, o1⟩ := qn_write R1.out (by rw [List.length_set]; exact HML.out) (k := k) (by omega) z X1.out h0 Q1.out
    have R2 := Lib.hid r1
    have X2 := Lib.hid x1
    have Q2 := Lib.hid q1
    have V2 := Lib.hid ((o1 _ HBG.out).trans V1.out)
    clear r1 x1 q1 o1
    (refine wpAnyK_one (i := 15) (o := ?_) ?_ ?_ ?_ (fun K hK => ?_); rotate_left 1; (focus kernel_rfl); (focus (simp only [List.getElem?_toArray, List.getElem?_cons_zero, List.getElem?_cons_succ]; rfl)); (focus rfl))
    go_simp
    generalize (((((((wB.setCell ⟨g, k * 7, none⟩ (.float .f64 (floatOfInt .f64 (z.d : Int)))).setCell ⟨g, k * 7 + 1, none⟩ (.int .i64 z.r.x0)).setCell ⟨g, k * 7 + 2, none⟩ (.int .i64 z.r.y0)).setCell ⟨g, k * 7 + 3, none⟩ (.int .i64 z.r.x1)).setCell ⟨g, k * 7 + 4, none⟩ (.int .i64 z.r.y1)).setCell ⟨g, k * 7 + 5, none⟩ (.int .i64 z.v)).setCell ⟨g, k * 7 + 6, none⟩ (.pointer z.p)) = wC at R2 X2 Q2 V2 hK ⊢
    refine hK _ _ (fun _ => trivial) ?_
    clear hK K a0 a1 a2 a3 a4 a5 a6 f0 f1 f2 f3 f4 f5 f6 hyB
    refine wpAnyK_done (by kernel_rfl) ?_ _
    obtain ⟨q2, hq2⟩ : ∃ q2, (q - 1) / 2 = q2 := ⟨_, rfl⟩
    have i2 : Int.tdiv ((q : Int) - 1) 2 = q2 := by
      rw [← hq2]
      rcases Nat.eq_zero_or_pos q with h | h
      · rw [h]; rfl
      · rw [show ((q : Int) - 1) = ((q - 1 : Nat) : Int) by omega]; exact (Int.ofNat_tdiv _ _).symm
    have hsw : HeapUp (kyL QN.d ((M.set q y).set k z)) m q := by
      have h := HUP.out.step (by omega) hkm (by rw [hq, HKY.out, HKZ.out]; exact hlt)
      rw [hq] at h
      rw [sw_ky QN.d HZ.out HY.out]; exact h
    have HSW := Lib.hid hsw
    have HPS := Lib.hid (sw_perm HZ.out HY.out)
    clear hsw
    go_wp2_with fail
    go_roundw
    case measure => simp [intOf]; omega
    case rel => exact ⟨q, q2, by omega, hq2, by go_num, by go_num, ⟨_, R2.out, HPS.out.trans HPM.out, HSW.out⟩, V2.out, X2.out, Q2.out⟩

set_option maxRecDepth 100000 in
set_option maxHeartbeats 3200000 in
theorem pop_none (w : World) (base Bq : Nat) (hQ : QAt w base Bq []) :
    Calls Try.prog 75 #[.pointer (some ⟨Bq, 0, none⟩)] w fun e w' => e = .returned (.tuple #[.agg #[.float .f64 0, .int .i64 0, .int .i64 0, .int .i64 0, .int .i64 0, .int .i64 0, .pointer none], .bool false]) ∧ Mix.Ex w w' := by
  obtain ⟨lb, v, hv, hr⟩ := hQ
  have hxa := (Mix.Ex.refl w).alloc (.cells #[.float .f64 0, .int .i64 0, .int .i64 0, .int .i64 0, .int .i64 0, .int .i64 0, .pointer none] 126)
  have n2 := heap_alloc_new w (.cells #[.float .f64 0, .int .i64 0, .int .i64 0, .int .i64 0, .int .i64 0, .int .i64 0, .pointer none] 126)
  have hv1 := hxa.obj hv
  obtain ⟨o, cap0, rfl, ho⟩ := hr.slice
  clear ho hr
  dsimp only [List.length_nil] at hv hv1
  go_enter Try.func75, Try.ntmps75
  go_upto_region 1 with (fail)
  change Code.wp _ _ _ _ (w.alloc (.cells #[.float .f64 0, .int .i64 0, .int .i64 0, .int .i64 0, .int .i64 0, .int .i64 0, .pointer none] 126))
  obtain ⟨B2, hB2⟩ : ∃ B2, w.heap.size = B2 := ⟨_, rfl⟩
  rw [hB2] at n2 ⊢
  generalize (w.alloc (.cells #[.float .f64 0, .int .i64 0, .int .i64 0, .int .i64 0, .int .i64 0, .int .i64 0, .pointer none] 126)) = w1 at n2 hxa hv1 ⊢
  have a0 := cellOf hv1 0
  simp only [List.getElem?_toArray, List.getElem?_cons_zero, List.getElem?_cons_succ] at a0
  have b0 := cellOf n2 0
  have f0 := frzOf n2 0
  have b1 := cellOf n2 1
  have f1 := frzOf n2 1
  have b2 := cellOf n2 2
  have f2 := frzOf n2 2
  have b3 := cellOf n2 3
  have f3 := frzOf n2 3
  have b4 := cellOf n2 4
  have f4 := frzOf n2 4
  have b5 := cellOf n2 5
  have f5 := frzOf n2 5
  have b6 := cellOf n2 6
  have f6 := frzOf n2 6
  simp only [List.getElem?_toArray, List.getElem?_cons_zero, List.getElem?_cons_succ] at b0 b1 b2 b3 b4 b5 b6
  have hw2 : w.heap.size ≤ B2 := by omega
  have hx2 := (((((((hxa.setCell (p := ⟨B2, 0, none⟩) hw2 (.float .f64 0)).setCell (p := ⟨B2, 1, none⟩) hw2 (.int .i64 0)).setCell (p := ⟨B2, 2, none⟩) hw2 (.int .i64 0)).setCell (p := ⟨B2, 3, none⟩) hw2 (.int .i64 0)).setCell (p := ⟨B2, 4, none⟩) hw2 (.int .i64 0)).setCell (p := ⟨B2, 5, none⟩) hw2 (.int .i64 0)).setCell (p := ⟨B2, 6, none⟩) hw2 (.pointer none))
  have o2 := (setCell_obj (setCell_obj (setCell_obj (setCell_obj (setCell_obj (setCell_obj (setCell_obj n2 0 (.float .f64 0)) 1 (.int .i64 0)) 2 (.int .i64 0)) 3 (.int .i64 0)) 4 (.int .i64 0)) 5 (.int .i64 0)) 6 (.pointer none))
  simp only [List.setIfInBounds_toArray, List.set_cons_zero, List.set_cons_succ] at o2
  have O2 := Lib.hid o2
  have HX2 := Lib.hid hx2
  clear o2 hx2 hxa hv hv1 n2
  go_wp2_with fail
  generalize (((((((w1.setCell ⟨B2, 0, none⟩ (.float .f64 0)).setCell ⟨B2, 1, none⟩ (.int .i64 0)).setCell ⟨B2, 2, none⟩ (.int .i64 0)).setCell ⟨B2, 3, none⟩ (.int .i64 0)).setCell ⟨B2, 4, none⟩ (.int .i64 0)).setCell ⟨B2, 5, none⟩ (.int .i64 0)).setCell ⟨B2, 6, none⟩ (.pointer none)) = w2 at O2 HX2 ⊢
  clear a0 b0 b1 b2 b3 b4 b5 b6 f0 f1 f2 f3 f4 f5 f6
  have b0 := cellOf O2.out 0
  have b1 := cellOf O2.out 1
  have b2 := cellOf O2.out 2
  have b3 := cellOf O2.out 3
  have b4 := cellOf O2.out 4
  have b5 := cellOf O2.out 5
  have b6 := cellOf O2.out 6
  simp only [List.getElem?_toArray, List.getElem?_cons_zero, List.getElem?_cons_succ] at b0 b1 b2 b3 b4 b5 b6
  refine bodyPost_ret (v := .tuple #[.agg #[.float .f64 0, .int .i64 0, .int .i64 0, .int .i64 0, .int .i64 0, .int .i64 0, .pointer none], .bool false]) (by simp [results, Try.results75, go_sem, b0, b1, b2, b3, b4, b5, b6]) rfl ⟨rfl, HX2.out⟩
set_option maxRecDepth 100000 in
set_option maxHeartbeats 6400000 in
theorem pop_c (w0 w : World) (base Bq : Nat) (L : List QN) (hQ : QAt w base Bq L) (hne : L ≠ []) (hl : L.length ≤ 900000) (hk : ∀ y ∈ L, y.d < 2 ^ 53) (hh : IsHeap QN.d L) (hx0 : Mix.Ex w0 w) (h0 : w0.heap.size ≤ base) :
    Calls Try.prog 75 #[.pointer (some ⟨Bq, 0, none⟩)] w fun e w' => ∃ (x : QN) (L' : List QN), e = .returned (.tuple #[.agg #[.float .f64 (floatOfInt .f64 (x.d : Int)), .int .i64 x.r.x0, .int .i64 x.r.y0, .int .i64 x.r.x1, .int .i64 x.r.y1, .int .i64 x.v, .pointer x.p], .bool true]) ∧ (x :: L').Perm L ∧ (∀ y ∈ L', x.d ≤ y.d) ∧ IsHeap QN.d L' ∧ QAt w' base Bq L' ∧ Mix.Ex w0 w' ∧ KpQ w w' := by
  obtain ⟨lb, v, hv, hr⟩ := hQ
  obtain ⟨m, hm⟩ : ∃ m, L.length = m + 1 := ⟨L.length - 1, by have := List.length_pos_iff.2 hne; omega⟩
  obtain ⟨n, hn⟩ : ∃ n, m + 1 = n := ⟨_, rfl⟩
  obtain ⟨o, cap, rfl, ho⟩ := hr.slice
  obtain ⟨g, rfl⟩ := ho (by omega)
  clear ho hne
  rw [hm, hn] at hv hr
  obtain ⟨x, hx⟩ : ∃ x, L[0]? = some x := ⟨L[0]'(by omega), List.getElem?_eq_getElem _⟩
  obtain ⟨u, hu⟩ : ∃ u, L[m]? = some u := ⟨L[m]'(by omega), List.getElem?_eq_getElem _⟩
  have HLEAST := Lib.hid (hh.least QN.d hx)
  have HDN0 := Lib.hid (pop_dn QN.d (y := u) hh hm)
  have HPP := Lib.hid (pop_perm hm hx hu)
  have HK := Lib.hid hk
  have HU := Lib.hid hu
  have HX := Lib.hid hx
  have hgq : g ≠ Bq := by
    rintro rfl
    obtain ⟨cs, hc⟩ := Row.typ hr
    rw [hc] at hv
    simp only [Option.some.injEq, Obj.cells.injEq] at hv
    exact absurd hv.2.1 (by decide)
  have hgl := (hr.lt g rfl).2
  have hgb := (hr.lt g rfl).1
  have hql := (Array.getElem?_eq_some_iff.1 hv).1
  have hxa := (Mix.Ex.refl w).alloc (.cells #[.float .f64 0, .int .i64 0, .int .i64 0, .int .i64 0, .int .i64 0, .int .i64 0, .pointer none] 126)
  have n2 := heap_alloc_new w (.cells #[.float .f64 0, .int .i64 0, .int .i64 0, .int .i64 0, .int .i64 0, .int .i64 0, .pointer none] 126)
  have hv1 := hxa.obj hv
  have e0 : ((n : Int) == 0) = false := by simp; omega
  clear hh hk hu hx
  go_enter Try.func75, Try.ntmps75
  go_upto_region 1 with (fail)
  change Code.wp _ _ _ _ (w.alloc (.cells #[.float .f64 0, .int .i64 0, .int .i64 0, .int .i64 0, .int .i64 0, .int .i64 0, .pointer none] 126))
  obtain ⟨B2, hB2⟩ : ∃ B2, w.heap.size = B2 := ⟨_, rfl⟩
  have hsz1 : (w.alloc (.cells #[.float .f64 0, .int .i64 0, .int .i64 0, .int .i64 0, .int .i64 0, .int .i64 0, .pointer none] 126)).heap.size = B2 + 1 := by rw [World.size_alloc, hB2]
  rw [hB2] at n2 ⊢
  have hr1 := hr.ex hxa
  have hx1 := hx0.trans hxa
  have hq1 := (KpQ.refl w).ex hxa
  generalize (w.alloc (.cells #[.float .f64 0, .int .i64 0, .int .i64 0, .int .i64 0, .int .i64 0, .int .i64 0, .pointer none] 126)) = w1 at n2 hxa hv1 hr1 hx1 hq1 hsz1 ⊢
  have a0 := cellOf hv1 0
  simp only [List.getElem?_toArray, List.getElem?_cons_zero, List.getElem?_cons_succ] at a0
  have hxb := (Mix.Ex.refl w1).alloc (.cells #[.float .f64 0, .int .i64 0, .int .i64 0, .int .i64 0, .int .i64 0, .int .i64 0, .pointer none] 126)
  have n5 := heap_alloc_new w1 (.cells #[.float .f64 0, .int .i64 0, .int .i64 0, .int .i64 0, .int .i64 0, .int .i64 0, .pointer none] 126)
  have n2 := hxb.obj n2
  have hv1 := hxb.obj hv1
  have hr1 := hr1.ex hxb
  have hx1 := hx1.trans hxb
  have hq1 := hq1.ex hxb
  rw [hsz1] at n5
  have N5 := Lib.hid n5
  have N2 := Lib.hid n2
  have HV1 := Lib.hid hv1
  have HR1 := Lib.hid hr1
  have HX1 := Lib.hid hx1
  have HQ1 := Lib.hid hq1
  clear n5 n2 hv1 hr1 hx1 hq1 hxa hxb hv hr hx0
  go_upto_region 5 with (fail)
  obtain ⟨B5, hB5⟩ : ∃ B5, B2 + 1 = B5 := ⟨_, rfl⟩
  rw [hB5] at N5 ⊢
  change Code.wp _ _ _ _ (w1.alloc (.cells #[.float .f64 0, .int .i64 0, .int .i64 0, .int .i64 0, .int .i64 0, .int .i64 0, .pointer none] 126))
  generalize (w1.alloc (.cells #[.float .f64 0, .int .i64 0, .int .i64 0, .int .i64 0, .int .i64 0, .int .i64 0, .pointer none] 126)) = w2 at N5 N2 HV1 HR1 HX1 HQ1 ⊢
  clear a0 hsz1
  have hB5q : Bq ≠ B5 := by omega
  have hB5g : g ≠ B5 := by omega
  have hB52 : B2 ≠ B5 := by omega
  have hgB2 : g ≠ B2 := by omega
  have hqB2 : Bq ≠ B2 := by omega
  have hwB2 : w0.heap.size ≤ B2 := by omega
  have hwB5 : w0.heap.size ≤ B5 := by omega
  have hwg : w0.heap.size ≤ g := by omega
  have hwq : w0.heap.size ≤ Bq := by omega
  have i1 : (n : Int) - 1 = m := by omega
  have hj1 : (m : Int) < n := by omega
  have hj2 : (0 : Int) < n := by omega
  have hj3 : 0 < n := by omega
  have hj4 : m < n := by omega
  have hwm : IntKind.i64.wrap (m : Int) = m := by rw [IntKind.wrap_i64]; omega
  have MKC : ∀ W : World, W.heap[Bq]? = some (.cells #[.slice (some ⟨g, 0, none⟩) n cap] 123 (0, 0)) → W.Row base 126 7 qnV (.slice (some ⟨g, 0, none⟩) n cap) L → (W.cell? ⟨Bq, 0, none⟩ = some (.slice (some ⟨g, 0, none⟩) n cap) ∧ W.cell? ⟨g, 0, none⟩ = some (.float .f64 (floatOfInt .f64 (x.d : Int))) ∧ W.cell? ⟨g, 1, none⟩ = some (.int .i64 x.r.x0) ∧ W.cell? ⟨g, 2, none⟩ = some (.int .i64 x.r.y0) ∧ W.cell? ⟨g, 3, none⟩ = some (.int .i64 x.r.x1) ∧ W.cell? ⟨g, 4, none⟩ = some (.int .i64 x.r.y1) ∧ W.cell? ⟨g, 5, none⟩ = some (.int .i64 x.v) ∧ W.cell? ⟨g, 6, none⟩ = some (.pointer x.p) ∧ W.cell? ⟨g, m * 7, none⟩ = some (.float .f64 (floatOfInt .f64 (u.d : Int))) ∧ W.cell? ⟨g, m * 7 + 1, none⟩ = some (.int .i64 u.r.x0) ∧ W.cell? ⟨g, m * 7 + 2, none⟩ = some (.int .i64 u.r.y0) ∧ W.cell? ⟨g, m * 7 + 3, none⟩ = some (.int .i64 u.r.x1) ∧ W.cell? ⟨g, m * 7 + 4, none⟩ = some (.int .i64 u.r.y1) ∧ W.cell? ⟨g, m * 7 + 5, none⟩ = some (.int .i64 u.v) ∧ W.cell? ⟨g, m * 7 + 6, none⟩ = some (.pointer u.p)) := fun W h1 h2 => by
    obtain ⟨c0, c1, c2, c3, c4, c5, c6⟩ := row_cells7 h2 HX.out
    obtain ⟨d0, d1, d2, d3, d4, d5, d6⟩ := row_cells7 h2 HU.out
    simp only [Nat.zero_mul, Nat.zero_add] at c0 c1 c2 c3 c4 c5 c6
    exact ⟨by rw [cellOf h1]; rfl, c0, c1, c2, c3, c4, c5, c6, d0, d1, d2, d3, d4, d5, d6⟩
  have HC := MKC (w2.drewN 1) HV1.out (HR1.out.ex ((Mix.Ex.refl w2).drewN 1))
  have hv3 : (w2.drewN 1).heap[Bq]? = _ := HV1.out
  have hr3 := HR1.out.ex ((Mix.Ex.refl w2).drewN 1)
  have hx3 := HX1.out.drewN 1
  have hq3 := HQ1.out.ex ((Mix.Ex.refl w2).drewN 1)
  have n53 : (w2.drewN 1).heap[B5]? = _ := N5.out
  have n23 : (w2.drewN 1).heap[B2]? = _ := N2.out
  refine wp_region_K (fun W => W.cell? ⟨Bq, 0, none⟩ = some (.slice (some ⟨g, 0, none⟩) n cap) ∧ W.cell? ⟨g, 0, none⟩ = some (.float .f64 (floatOfInt .f64 (x.d : Int))) ∧ W.cell? ⟨g, 1, none⟩ = some (.int .i64 x.r.x0) ∧ W.cell? ⟨g, 2, none⟩ = some (.int .i64 x.r.y0) ∧ W.cell? ⟨g, 3, none⟩ = some (.int .i64 x.r.x1) ∧ W.cell? ⟨g, 4, none⟩ = some (.int .i64 x.r.y1) ∧ W.cell? ⟨g, 5, none⟩ = some (.int .i64 x.v) ∧ W.cell? ⟨g, 6, none⟩ = some (.pointer x.p) ∧ W.cell? ⟨g, m * 7, none⟩ = some (.float .f64 (floatOfInt .f64 (u.d : Int))) ∧ W.cell? ⟨g, m * 7 + 1, none⟩ = some (.int .i64 u.r.x0) ∧ W.cell? ⟨g, m * 7 + 2, none⟩ = some (.int .i64 u.r.y0) ∧ W.cell? ⟨g, m * 7 + 3, none⟩ = some (.int .i64 u.r.x1) ∧ W.cell? ⟨g, m * 7 + 4, none⟩ = some (.int .i64 u.r.y1) ∧ W.cell? ⟨g, m * 7 + 5, none⟩ = some (.int .i64 u.v) ∧ W.cell? ⟨g, m * 7 + 6, none⟩ = some (.pointer u.p)) 13 (by kernel_rfl) ?_
  change wpAnyK _ _ _ _ _ 15 (Array.replicate 15 false) _ _
  (refine wpAnyK_take (i := 0) (oi := ?_) (v := ?_) ?_ ?_ ?_ ?_ ?_ ?_ ?_ ?_ ?_; rotate_left 2; (focus (simp only [List.getElem?_toArray, List.getElem?_cons_zero, List.getElem?_cons_succ]; rfl)); (focus kernel_rfl); (focus kernel_rfl); (focus kernel_rfl); (focus kernel_rfl); (focus exact fun _ _ _ h => h); (focus (refine Or.inl ⟨by rfl, ?_⟩; intro W hW; (try dsimp only at hW); go_simp; try with_reducible rfl)); (focus exact HC); (try simp only [Act.put, List.setIfInBounds_toArray, List.set_cons_zero, List.set_cons_succ]))
  (refine wpAnyK_take (i := 1) (oi := ?_) (v := ?_) ?_ ?_ ?_ ?_ ?_ ?_ ?_ ?_ ?_; rotate_left 2; (focus (simp only [List.getElem?_toArray, List.getElem?_cons_zero, List.getElem?_cons_succ]; rfl)); (focus kernel_rfl); (focus kernel_rfl); (focus kernel_rfl); (focus kernel_rfl); (focus exact fun _ _ _ h => h); (focus (refine Or.inl ⟨by rfl, ?_⟩; intro W hW; (try dsimp only at hW); go_simp; try with_reducible rfl)); (focus exact HC); (try simp only [Act.put, List.setIfInBounds_toArray, List.set_cons_zero, List.set_cons_succ]))
  (refine wpAnyK_take (i := 2) (oi := ?_) (v := ?_) ?_ ?_ ?_ ?_ ?_ ?_ ?_ ?_ ?_; rotate_left 2; (focus (simp only [List.getElem?_toArray, List.getElem?_cons_zero, List.getElem?_cons_succ]; rfl)); (focus kernel_rfl); (focus kernel_rfl); (focus kernel_rfl); (focus kernel_rfl); (focus exact fun _ _ _ h => h); (focus (refine Or.inl ⟨by rfl, ?_⟩; intro W hW; (try dsimp only at hW); go_simp; try with_reducible rfl)); (focus exact HC); (try simp only [Act.put, List.setIfInBounds_toArray, List.set_cons_zero, List.set_cons_succ]))
  (refine wpAnyK_take (i := 3) (oi := ?_) (v := ?_) ?_ ?_ ?_ ?_ ?_ ?_ ?_ ?_ ?_; rotate_left 2; (focus (simp only [List.getElem?_toArray, List.getElem?_cons_zero, List.getElem?_cons_succ]; rfl)); (focus kernel_rfl); (focus kernel_rfl); (focus kernel_rfl); (focus kernel_rfl); (focus exact fun _ _ _ h => h); (focus (refine Or.inl ⟨by rfl, ?_⟩; intro W hW; (try dsimp only at hW); go_simp; try with_reducible rfl)); (focus exact HC); (try simp only [Act.put, List.setIfInBounds_toArray, List.set_cons_zero, List.set_cons_succ]))
  (refine wpAnyK_take (i := 4) (oi := ?_) (v := ?_) ?_ ?_ ?_ ?_ ?_ ?_ ?_ ?_ ?_; rotate_left 2; (focus (simp only [List.getElem?_toArray, List.getElem?_cons_zero, List.getElem?_cons_succ]; rfl)); (focus kernel_rfl); (focus kernel_rfl); (focus kernel_rfl); (focus kernel_rfl); (focus exact fun _ _ _ h => h); (focus (refine Or.inl ⟨by rfl, ?_⟩; intro W hW; (try dsimp only at hW); go_simp; try with_reducible rfl)); (focus exact HC); (try simp only [Act.put, List.setIfInBounds_toArray, List.set_cons_zero, List.set_cons_succ]))
  (refine wpAnyK_take (i := 5) (oi := ?_) (v := ?_) ?_ ?_ ?_ ?_ ?_ ?_ ?_ ?_ ?_; rotate_left 2; (focus (simp only [List.getElem?_toArray, List.getElem?_cons_zero, List.getElem?_cons_succ]; rfl)); (focus kernel_rfl); (focus kernel_rfl); (focus kernel_rfl); (focus kernel_rfl); (focus exact fun _ _ _ h => h); (focus (refine Or.inl ⟨by rfl, ?_⟩; intro W hW; (try dsimp only at hW); go_simp; try with_reducible rfl)); (focus exact HC); (try simp only [Act.put, List.setIfInBounds_toArray, List.set_cons_zero, List.set_cons_succ]))
  (refine wpAnyK_take (i := 6) (oi := ?_) (v := ?_) ?_ ?_ ?_ ?_ ?_ ?_ ?_ ?_ ?_; rotate_left 2; (focus (simp only [List.getElem?_toArray, List.getElem?_cons_zero, List.getElem?_cons_succ]; rfl)); (focus kernel_rfl); (focus kernel_rfl); (focus kernel_rfl); (focus kernel_rfl); (focus exact fun _ _ _ h => h); (focus (refine Or.inl ⟨by rfl, ?_⟩; intro W hW; (try dsimp only at hW); go_simp; try with_reducible rfl)); (focus exact HC); (try simp only [Act.put, List.setIfInBounds_toArray, List.set_cons_zero, List.set_cons_succ]))
  (refine wpAnyK_take (i := 7) (oi := ?_) (v := ?_) ?_ ?_ ?_ ?_ ?_ ?_ ?_ ?_ ?_; rotate_left 2; (focus (simp only [List.getElem?_toArray, List.getElem?_cons_zero, List.getElem?_cons_succ]; rfl)); (focus kernel_rfl); (focus kernel_rfl); (focus kernel_rfl); (focus kernel_rfl); (focus exact fun _ _ _ h => h); (focus (refine Or.inl ⟨by rfl, ?_⟩; intro W hW; (try dsimp only at hW); go_simp; try with_reducible rfl)); (focus exact HC); (try simp only [Act.put, List.setIfInBounds_toArray, List.set_cons_zero, List.set_cons_succ]))
  (refine wpAnyK_take (i := 8) (oi := ?_) (v := ?_) ?_ ?_ ?_ ?_ ?_ ?_ ?_ ?_ ?_; rotate_left 2; (focus (simp only [List.getElem?_toArray, List.getElem?_cons_zero, List.getElem?_cons_succ]; rfl)); (focus kernel_rfl); (focus kernel_rfl); (focus kernel_rfl); (focus kernel_rfl); (focus exact fun _ _ _ h => h); (focus (refine Or.inl ⟨by rfl, ?_⟩; intro W hW; (try dsimp only at hW); go_simp; try with_reducible rfl)); (focus exact HC); (try simp only [Act.put, List.setIfInBounds_toArray, List.set_cons_zero, List.set_cons_succ]))
  (refine wpAnyK_take (i := 9) (oi := ?_) (v := ?_) ?_ ?_ ?_ ?_ ?_ ?_ ?_ ?_ ?_; rotate_left 2; (focus (simp only [List.getElem?_toArray, List.getElem?_cons_zero, List.getElem?_cons_succ]; rfl)); (focus kernel_rfl); (focus kernel_rfl); (focus kernel_rfl); (focus kernel_rfl); (focus exact fun _ _ _ h => h); (focus (refine Or.inl ⟨by rfl, ?_⟩; intro W hW; (try dsimp only at hW); go_simp; try with_reducible rfl)); (focus exact HC); (try simp only [Act.put, List.setIfInBounds_toArray, List.set_cons_zero, List.set_cons_succ]))
  (refine wpAnyK_take (i := 10) (oi := ?_) (v := ?_) ?_ ?_ ?_ ?_ ?_ ?_ ?_ ?_ ?_; rotate_left 2; (focus (simp only [List.getElem?_toArray, List.getElem?_cons_zero, List.getElem?_cons_succ]; rfl)); (focus kernel_rfl); (focus kernel_rfl); (focus kernel_rfl); (focus kernel_rfl); (focus exact fun _ _ _ h => h); (focus (refine Or.inl ⟨by rfl, ?_⟩; intro W hW; (try dsimp only at hW); go_simp; try with_reducible rfl)); (focus exact HC); (try simp only [Act.put, List.setIfInBounds_toArray, List.set_cons_zero, List.set_cons_succ]))
  (refine wpAnyK_take (i := 11) (oi := ?_) (v := ?_) ?_ ?_ ?_ ?_ ?_ ?_ ?_ ?_ ?_; rotate_left 2; (focus (simp only [List.getElem?_toArray, List.getElem?_cons_zero, List.getElem?_cons_succ]; rfl)); (focus kernel_rfl); (focus kernel_rfl); (focus kernel_rfl); (focus kernel_rfl); (focus exact fun _ _ _ h => h); (focus (refine Or.inl ⟨by rfl, ?_⟩; intro W hW; (try dsimp only at hW); go_simp; try with_reducible rfl)); (focus exact HC); (try simp only [Act.put, List.setIfInBounds_toArray, List.set_cons_zero, List.set_cons_succ]))
  clear HC N5 N2 HV1 HR1 HX1 HQ1
  have HV3 := Lib.hid hv3
  have HR3 := Lib.hid hr3
  have HX3 := Lib.hid hx3
  have HQ3 := Lib.hid hq3
  have N53 := Lib.hid n53
  have N23 := Lib.hid n23
  clear hv3 hr3 hx3 hq3 n53 n23
  generalize w2.drewN 1 = w3 at HV3 HR3 HX3 HQ3 N53 N23 ⊢
  have b0 := cellOf N53.out 0
  have f0 := frzOf N53.out 0
  have b1 := cellOf N53.out 1
  have f1 := frzOf N53.out 1
  have b2 := cellOf N53.out 2
  have f2 := frzOf N53.out 2
  have b3 := cellOf N53.out 3
  have f3 := frzOf N53.out 3
  have b4 := cellOf N53.out 4
  have f4 := frzOf N53.out 4
  have b5 := cellOf N53.out 5
  have f5 := frzOf N53.out 5
  have b6 := cellOf N53.out 6
  have f6 := frzOf N53.out 6
  simp only [List.getElem?_toArray, List.getElem?_cons_zero, List.getElem?_cons_succ] at b0 b1 b2 b3 b4 b5 b6
  (refine wpAnyK_one (i := 12) (o := ?_) ?_ ?_ ?_ (fun K hK => ?_); rotate_left 1; (focus kernel_rfl); (focus (simp only [List.getElem?_toArray, List.getElem?_cons_zero, List.getElem?_cons_succ]; rfl)); (focus rfl))
  go_simp
  have o5 := (setCell_obj (setCell_obj (setCell_obj (setCell_obj (setCell_obj (setCell_obj (setCell_obj N53.out 0 (.float .f64 (floatOfInt .f64 (x.d : Int)))) 1 (.int .i64 x.r.x0)) 2 (.int .i64 x.r.y0)) 3 (.int .i64 x.r.x1)) 4 (.int .i64 x.r.y1)) 5 (.int .i64 x.v)) 6 (.pointer x.p))
  simp only [List.setIfInBounds_toArray, List.set_cons_zero, List.set_cons_succ] at o5
  have v4 : (((((((w3.setCell ⟨B5, 0, none⟩ (.float .f64 (floatOfInt .f64 (x.d : Int)))).setCell ⟨B5, 1, none⟩ (.int .i64 x.r.x0)).setCell ⟨B5, 2, none⟩ (.int .i64 x.r.y0)).setCell ⟨B5, 3, none⟩ (.int .i64 x.r.x1)).setCell ⟨B5, 4, none⟩ (.int .i64 x.r.y1)).setCell ⟨B5, 5, none⟩ (.int .i64 x.v)).setCell ⟨B5, 6, none⟩ (.pointer x.p)).heap[Bq]? = _ := ((setCell_ne 6 hB5q (.pointer x.p) none).trans ((setCell_ne 5 hB5q (.int .i64 x.v) none).trans ((setCell_ne 4 hB5q (.int .i64 x.r.y1) none).trans ((setCell_ne 3 hB5q (.int .i64 x.r.x1) none).trans ((setCell_ne 2 hB5q (.int .i64 x.r.y0) none).trans ((setCell_ne 1 hB5q (.int .i64 x.r.x0) none).trans ((setCell_ne 0 hB5q (.float .f64 (floatOfInt .f64 (x.d : Int))) none).trans HV3.out)))))))
  have o2 : (((((((w3.setCell ⟨B5, 0, none⟩ (.float .f64 (floatOfInt .f64 (x.d : Int)))).setCell ⟨B5, 1, none⟩ (.int .i64 x.r.x0)).setCell ⟨B5, 2, none⟩ (.int .i64 x.r.y0)).setCell ⟨B5, 3, none⟩ (.int .i64 x.r.x1)).setCell ⟨B5, 4, none⟩ (.int .i64 x.r.y1)).setCell ⟨B5, 5, none⟩ (.int .i64 x.v)).setCell ⟨B5, 6, none⟩ (.pointer x.p)).heap[B2]? = _ := ((setCell_ne 6 hB52 (.pointer x.p) none).trans ((setCell_ne 5 hB52 (.int .i64 x.v) none).trans ((setCell_ne 4 hB52 (.int .i64 x.r.y1) none).trans ((setCell_ne 3 hB52 (.int .i64 x.r.x1) none).trans ((setCell_ne 2 hB52 (.int .i64 x.r.y0) none).trans ((setCell_ne 1 hB52 (.int .i64 x.r.x0) none).trans ((setCell_ne 0 hB52 (.float .f64 (floatOfInt .f64 (x.d : Int))) none).trans N23.out)))))))
  have r4 : (((((((w3.setCell ⟨B5, 0, none⟩ (.float .f64 (floatOfInt .f64 (x.d : Int)))).setCell ⟨B5, 1, none⟩ (.int .i64 x.r.x0)).setCell ⟨B5, 2, none⟩ (.int .i64 x.r.y0)).setCell ⟨B5, 3, none⟩ (.int .i64 x.r.x1)).setCell ⟨B5, 4, none⟩ (.int .i64 x.r.y1)).setCell ⟨B5, 5, none⟩ (.int .i64 x.v)).setCell ⟨B5, 6, none⟩ (.pointer x.p)).Row base 126 7 qnV (.slice (some ⟨g, 0, none⟩) n cap) L := HR3.out.of_block fun k hk => by
    simp only [Value.ownBlock, Option.some.injEq] at hk
    subst hk
    exact ((setCell_ne 6 hB5g (.pointer x.p) none).trans ((setCell_ne 5 hB5g (.int .i64 x.v) none).trans ((setCell_ne 4 hB5g (.int .i64 x.r.y1) none).trans ((setCell_ne 3 hB5g (.int .i64 x.r.x1) none).trans ((setCell_ne 2 hB5g (.int .i64 x.r.y0) none).trans ((setCell_ne 1 hB5g (.int .i64 x.r.x0) none).trans ((setCell_ne 0 hB5g (.float .f64 (floatOfInt .f64 (x.d : Int))) none).trans rfl)))))))
  have x4 := (((((((HX3.out.setCell (p := ⟨B5, 0, none⟩) hwB5 (.float .f64 (floatOfInt .f64 (x.d : Int)))).setCell (p := ⟨B5, 1, none⟩) hwB5 (.int .i64 x.r.x0)).setCell (p := ⟨B5, 2, none⟩) hwB5 (.int .i64 x.r.y0)).setCell (p := ⟨B5, 3, none⟩) hwB5 (.int .i64 x.r.x1)).setCell (p := ⟨B5, 4, none⟩) hwB5 (.int .i64 x.r.y1)).setCell (p := ⟨B5, 5, none⟩) hwB5 (.int .i64 x.v)).setCell (p := ⟨B5, 6, none⟩) hwB5 (.pointer x.p))
  have q4 := (((((((HQ3.out.setCell (o := 0) N53.out (.inr rfl) (.float .f64 (floatOfInt .f64 (x.d : Int)))).setCell (o := 1) (setCell_obj N53.out 0 (.float .f64 (floatOfInt .f64 (x.d : Int)))) (.inr rfl) (.int .i64 x.r.x0)).setCell (o := 2) (setCell_obj (setCell_obj N53.out 0 (.float .f64 (floatOfInt .f64 (x.d : Int)))) 1 (.int .i64 x.r.x0)) (.inr rfl) (.int .i64 x.r.y0)).setCell (o := 3) (setCell_obj (setCell_obj (setCell_obj N53.out 0 (.float .f64 (floatOfInt .f64 (x.d : Int)))) 1 (.int .i64 x.r.x0)) 2 (.int .i64 x.r.y0)) (.inr rfl) (.int .i64 x.r.x1)).setCell (o := 4) (setCell_obj (setCell_obj (setCell_obj (setCell_obj N53.out 0 (.float .f64 (floatOfInt .f64 (x.d : Int)))) 1 (.int .i64 x.r.x0)) 2 (.int .i64 x.r.y0)) 3 (.int .i64 x.r.x1)) (.inr rfl) (.int .i64 x.r.y1)).setCell (o := 5) (setCell_obj (setCell_obj (setCell_obj (setCell_obj (setCell_obj N53.out 0 (.float .f64 (floatOfInt .f64 (x.d : Int)))) 1 (.int .i64 x.r.x0)) 2 (.int .i64 x.r.y0)) 3 (.int .i64 x.r.x1)) 4 (.int .i64 x.r.y1)) (.inr rfl) (.int .i64 x.v)).setCell (o := 6) (setCell_obj (setCell_obj (setCell_obj (setCell_obj (setCell_obj (setCell_obj N53.out 0 (.float .f64 (floatOfInt .f64 (x.d : Int)))) 1 (.int .i64 x.r.x0)) 2 (.int .i64 x.r.y0)) 3 (.int .i64 x.r.x1)) 4 (.int .i64 x.r.y1)) 5 (.int .i64 x.v)) (.inr rfl) (.pointer x.p))
  have O5 := Lib.hid o5
  have V4 := Lib.hid v4
  have O2 := Lib.hid o2
  have R4 := Lib.hid r4
  have X4 := Lib.hid x4
  have Q4 := Lib.hid q4
  clear o5 v4 o2 r4 x4 q4 HV3 HR3 HX3 HQ3 N53 N23 b0 f0 b1 f1 b2 f2 b3 f3 b4 f4 b5 f5 b6 f6
  generalize (((((((w3.setCell ⟨B5, 0, none⟩ (.float .f64 (floatOfInt .f64 (x.d : Int)))).setCell ⟨B5, 1, none⟩ (.int .i64 x.r.x0)).setCell ⟨B5, 2, none⟩ (.int .i64 x.r.y0)).setCell ⟨B5, 3, none⟩ (.int .i64 x.r.x1)).setCell ⟨B5, 4, none⟩ (.int .i64 x.r.y1)).setCell ⟨B5, 5, none⟩ (.int .i64 x.v)).setCell ⟨B5, 6, none⟩ (.pointer x.p)) = w4 at O5 V4 O2 R4 X4 Q4 hK ⊢
  refine hK _ _ (fun _ => MKC _ V4.out R4.out) ?_
  clear hK K MKC
  (refine wpAnyK_one (i := 13) (o := ?_) ?_ ?_ ?_ (fun K hK => ?_); rotate_left 1; (focus kernel_rfl); (focus (simp only [List.getElem?_toArray, List.getElem?_cons_zero, List.getElem?_cons_succ]; rfl)); (focus rfl))
  go_simp
  refine hK _ _ (fun h => absurd h (by decide +kernel)) ?_
  clear hK K
  obtain ⟨c0, c1, c2, c3, c4, c5, c6⟩ := row_cells7 R4.out HX.out
  simp only [Nat.zero_mul, Nat.zero_add] at c0 c1 c2 c3 c4 c5 c6
  have f0 := Row.frz R4.out 0
  have f1 := Row.frz R4.out 1
  have f2 := Row.frz R4.out 2
  have f3 := Row.frz R4.out 3
  have f4 := Row.frz R4.out 4
  have f5 := Row.frz R4.out 5
  have f6 := Row.frz R4.out 6
  obtain ⟨r1, x1, q1, o1⟩ := qn_write R4.out (by rw [hm, hn]) (k := 0) (by omega) u X4.out h0 Q4.out
  simp only [Nat.zero_mul, Nat.zero_add] at r1 x1 q1 o1
  have R1 := Lib.hid r1
  have X1 := Lib.hid x1
  have Q1 := Lib.hid q1
  have V1 := Lib.hid ((o1 Bq (Ne.symm hgq)).trans V4.out)
  have O21 := Lib.hid ((o1 B2 (Ne.symm hgB2)).trans O2.out)
  have O51 := Lib.hid ((o1 B5 (Ne.symm hB5g)).trans O5.out)
  clear r1 x1 q1 o1
  (refine wpAnyK_one (i := 14) (o := ?_) ?_ ?_ ?_ (fun K hK => ?_); rotate_left 1; (focus kernel_rfl); (focus (simp only [List.getElem?_toArray, List.getElem?_cons_zero, List.getElem?_cons_succ]; rfl)); (focus rfl))
  go_simp
  generalize (((((((w4.setCell ⟨g, 0, none⟩ (.float .f64 (floatOfInt .f64 (u.d : Int)))).setCell ⟨g, 1, none⟩ (.int .i64 u.r.x0)).setCell ⟨g, 2, none⟩ (.int .i64 u.r.y0)).setCell ⟨g, 3, none⟩ (.int .i64 u.r.x1)).setCell ⟨g, 4, none⟩ (.int .i64 u.r.y1)).setCell ⟨g, 5, none⟩ (.int .i64 u.v)).setCell ⟨g, 6, none⟩ (.pointer u.p)) = w5 at R1 X1 Q1 V1 O21 O51 hK ⊢
  refine hK _ _ (fun h => absurd h (by decide +kernel)) ?_
  clear hK K c0 c1 c2 c3 c4 c5 c6 f0 f1 f2 f3 f4 f5 f6 O5 V4 O2 R4 X4 Q4
  refine wpAnyK_done (by kernel_rfl) ?_ _
  have hr6 := R1.out.take (by rw [List.length_set, hm, hn]) (i := m) (by omega)
  have a0 := cellOf V1.out 0
  have f0 := frzOf V1.out 0
  simp only [List.getElem?_toArray, List.getElem?_cons_zero, List.getElem?_cons_succ] at a0
  have hv7 := setCell_obj V1.out 0 (.slice (some ⟨g, 0, none⟩) m cap)
  simp only [List.setIfInBounds_toArray, List.set_cons_zero, List.set_cons_succ] at hv7
  have hr7 : (w5.setCell ⟨Bq, 0, none⟩ (.slice (some ⟨g, 0, none⟩) m cap)).Row base 126 7 qnV (.slice (some ⟨g, 0, none⟩) m cap) ((L.set 0 u).take m) := hr6.of_block fun k hk => by
    simp only [Value.ownBlock, Option.some.injEq] at hk
    subst hk
    exact setCell_ne 0 hgq _ none
  have hx7 := X1.out.setCell (p := ⟨Bq, 0, none⟩) hwq (.slice (some ⟨g, 0, none⟩) m cap)
  have hq7 := Q1.out.setCell (o := 0) V1.out (.inl rfl) (.slice (some ⟨g, 0, none⟩) m cap)
  have ho2 : (w5.setCell ⟨Bq, 0, none⟩ (.slice (some ⟨g, 0, none⟩) m cap)).heap[B2]? = _ := (setCell_ne 0 (Ne.symm hqB2) _ none).trans O21.out
  have ho5 : (w5.setCell ⟨Bq, 0, none⟩ (.slice (some ⟨g, 0, none⟩) m cap)).heap[B5]? = _ := (setCell_ne 0 (Ne.symm hB5q) _ none).trans O51.out
  have hcap : m ≤ cap := by
    rcases hr6.form with ⟨h, _⟩ | ⟨g', cap', h, _, _, h4, _⟩
    · cases h
    · simp only [Value.slice.injEq] at h
      rw [List.length_take, List.length_set] at h4
      have h5 := h.2.2
      omega
  have HV7 := Lib.hid hv7
  have HR7 := Lib.hid hr7
  have HX7 := Lib.hid hx7
  have HQ7 := Lib.hid hq7
  have HO2 := Lib.hid ho2
  have HO5 := Lib.hid ho5
  clear hr6 hv7 hr7 hx7 hq7 ho2 ho5 R1 X1 Q1 V1 O21 O51
  go_upto_region 8 with (fail)
  generalize (w5.setCell ⟨Bq, 0, none⟩ (.slice (some ⟨g, 0, none⟩) m cap)) = w7 at HV7 HR7 HX7 HQ7 HO2 HO5 ⊢
  clear a0 f0 i1 hj1 hj2 hj3 hj4 hwm hcap
  generalize hL2 : (L.set 0 u).take m = L2 at HR7 HDN0 HPP
  have hl2 : L2.length = m := by rw [← hL2, List.length_take, List.length_set]; omega
  have HKD : Hid (∀ y ∈ L2, y.d < 2 ^ 53) := Lib.hid fun y hy => HK.out y (HPP.out.mem_iff.1 (List.mem_cons_of_mem _ hy))
  have HLE : Hid (∀ y ∈ L2, x.d ≤ y.d) := Lib.hid fun y hy => HLEAST.out y (HPP.out.mem_iff.1 (List.mem_cons_of_mem _ hy))
  have HL2 := Lib.hid hl2
  have HBG : Hid (Bq ≠ g) := Lib.hid (Ne.symm hgq)
  have HBG2 : Hid (B2 ≠ g) := Lib.hid (Ne.symm hgB2)
  have HBG5 : Hid (B5 ≠ g) := Lib.hid (Ne.symm hB5g)
  clear hl2 hL2 HX HU
  go_wp2_with fail
  go_loopw [6] (fun i wr => ∃ k : Nat, k ≤ m ∧ i = .int .i64 k ∧ (∃ M, wr.Row base 126 7 qnV (.slice (some ⟨g, 0, none⟩) m cap) M ∧ M.Perm L2 ∧ HeapDn (kyL QN.d M) m k ∧ (k < m ∨ m = 0)) ∧ wr.heap[Bq]? = some (.cells #[.slice (some ⟨g, 0, none⟩) m cap] 123 (0, 0)) ∧ wr.heap[B2]? = some (.cells #[.float .f64 0, .int .i64 0, .int .i64 0, .int .i64 0, .int .i64 0, .int .i64 0, .pointer none] 126 (0, 0)) ∧ wr.heap[B5]? = some (.cells #[.float .f64 (floatOfInt .f64 (x.d : Int)), .int .i64 x.r.x0, .int .i64 x.r.y0, .int .i64 x.r.x1, .int .i64 x.r.y1, .int .i64 x.v, .pointer x.p] 126 (0, 0)) ∧ Mix.Ex w0 wr ∧ KpQ w wr) (fun i _ => m - (intOf i).toNat)
  case atStart => exact ⟨0, by omega, rfl, ⟨_, HR7.out, List.Perm.refl _, HDN0.out, by omega⟩, HV7.out, HO2.out, HO5.out, HX7.out, HQ7.out⟩
  case round =>
    obtain ⟨k, hkm, rfl, ⟨M, hrow, hpm, hdn, hkm0⟩, hbq, hb2, hb5, hx, hkq⟩ := hrel
    have hml : M.length = m := by rw [hpm.length_eq, HL2.out]
    obtain ⟨k2, hk2⟩ : ∃ k2, k * 2 = k2 := ⟨_, rfl⟩
    obtain ⟨l, hlk⟩ : ∃ l, k2 + 1 = l := ⟨_, rfl⟩
    obtain ⟨r, hrk⟩ : ∃ r, k2 + 2 = r := ⟨_, rfl⟩
    have e0 : (k : Int) * 2 = k2 := by omega
    have e1 : (k2 : Int) + 1 = l := by omega
    have e2 : (k2 : Int) + 2 = r := by omega
    have HML := Lib.hid hml
    have HPM := Lib.hid hpm
    have HDN := Lib.hid hdn
    have HROW := Lib.hid hrow
    have HX := Lib.hid hx
    have HV := Lib.hid hbq
    have HQ := Lib.hid hkq
    clear HO2 HO5
    have HO2 := Lib.hid hb2
    have HO5 := Lib.hid hb5
    clear hml hpm hdn hrow hx hbq hb2 hb5 hkq HV7 HR7 HX7 HQ7
    go_upto_region 12 with (fail)
    clear e0 e1 e2
    by_cases hlm : l < m
    case neg =>
      have g1 : decide ((l : Int) < (m : Int)) = false := decide_eq_false (by omega)
      have g2 : decide ((r : Int) < (m : Int)) = false := decide_eq_false (by omega)
      have hrm0 : ¬ r < m := by omega
      (refine Mix.wp_region_dr (by kernel_rfl) (by kernel_rfl) ?_; (repeat (go_big_quiet_step (fail))); refine wpQuiet_nil ?_; intro nq)
      have HROW9 := Lib.hid (HROW.out.ex ((Mix.Ex.refl wr).drewN nq))
      have HX9 := Lib.hid (HX.out.drewN nq)
      have HQ9 := Lib.hid (HQ.out.ex ((Mix.Ex.refl wr).drewN nq))
      have HV9 : Hid ((wr.drewN nq).heap[Bq]? = _) := Lib.hid HV.out
      have HO29 : Hid ((wr.drewN nq).heap[B2]? = _) := Lib.hid HO2.out
      have HO59 : Hid ((wr.drewN nq).heap[B5]? = _) := Lib.hid HO5.out
      clear HROW HX HQ HV HO2 HO5
      generalize wr.drewN nq = wr at HROW9 HX9 HQ9 HV9 HO29 HO59 ⊢
      have HROW := HROW9
      have HX := HX9
      have HQ := HQ9
      have HV := HV9
      have HO2 := HO29
      have HO5 := HO59
      clear HROW9 HX9 HQ9 HV9 HO29 HO59
      go_upto_region 14 with (fail)
      (refine Mix.wp_region_dr (by kernel_rfl) (by kernel_rfl) ?_; (repeat (go_big_quiet_step (fail))); refine wpQuiet_nil ?_; intro nq)
      have HROW9 := Lib.hid (HROW.out.ex ((Mix.Ex.refl wr).drewN nq))
      have HX9 := Lib.hid (HX.out.drewN nq)
      have HQ9 := Lib.hid (HQ.out.ex ((Mix.Ex.refl wr).drewN nq))
      have HV9 : Hid ((wr.drewN nq).heap[Bq]? = _) := Lib.hid HV.out
      have HO29 : Hid ((wr.drewN nq).heap[B2]? = _) := Lib.hid HO2.out
      have HO59 : Hid ((wr.drewN nq).heap[B5]? = _) := Lib.hid HO5.out
      clear HROW HX HQ HV HO2 HO5
      generalize wr.drewN nq = wr at HROW9 HX9 HQ9 HV9 HO29 HO59 ⊢
      have HROW := HROW9
      have HX := HX9
      have HQ := HQ9
      have HV := HV9
      have HO2 := HO29
      have HO5 := HO59
      clear HROW9 HX9 HQ9 HV9 HO29 HO59
      have hkk : ((k : Int) == k) = true := by simp
      have hH : IsHeap QN.d M := by
              unfold IsHeap
              rw [HML.out]
              refine HDN.out.done fun t t0 tn tp => ?_
              exfalso
              omega
      have HH := Lib.hid hH
      clear hH
      have a0 := cellOf HO5.out 0
      have b0 := cellOf HO2.out 0
      have f0 := frzOf HO2.out 0
      have a1 := cellOf HO5.out 1
      have b1 := cellOf HO2.out 1
      have f1 := frzOf HO2.out 1
      have a2 := cellOf HO5.out 2
      have b2 := cellOf HO2.out 2
      have f2 := frzOf HO2.out 2
      have a3 := cellOf HO5.out 3
      have b3 := cellOf HO2.out 3
      have f3 := frzOf HO2.out 3
      have a4 := cellOf HO5.out 4
      have b4 := cellOf HO2.out 4
      have f4 := frzOf HO2.out 4
      have a5 := cellOf HO5.out 5
      have b5 := cellOf HO2.out 5
      have f5 := frzOf HO2.out 5
      have a6 := cellOf HO5.out 6
      have b6 := cellOf HO2.out 6
      have f6 := frzOf HO2.out 6
      simp only [List.getElem?_toArray, List.getElem?_cons_zero, List.getElem?_cons_succ] at a0 b0 a1 b1 a2 b2 a3 b3 a4 b4 a5 b5 a6 b6
      have o2 := (setCell_obj (setCell_obj (setCell_obj (setCell_obj (setCell_obj (setCell_obj (setCell_obj HO2.out 0 (.float .f64 (floatOfInt .f64 (x.d : Int)))) 1 (.int .i64 x.r.x0)) 2 (.int .i64 x.r.y0)) 3 (.int .i64 x.r.x1)) 4 (.int .i64 x.r.y1)) 5 (.int .i64 x.v)) 6 (.pointer x.p))
      simp only [List.setIfInBounds_toArray, List.set_cons_zero, List.set_cons_succ] at o2
      have x2 := (((((((HX.out.setCell (p := ⟨B2, 0, none⟩) hwB2 (.float .f64 (floatOfInt .f64 (x.d : Int)))).setCell (p := ⟨B2, 1, none⟩) hwB2 (.int .i64 x.r.x0)).setCell (p := ⟨B2, 2, none⟩) hwB2 (.int .i64 x.r.y0)).setCell (p := ⟨B2, 3, none⟩) hwB2 (.int .i64 x.r.x1)).setCell (p := ⟨B2, 4, none⟩) hwB2 (.int .i64 x.r.y1)).setCell (p := ⟨B2, 5, none⟩) hwB2 (.int .i64 x.v)).setCell (p := ⟨B2, 6, none⟩) hwB2 (.pointer x.p))
      have q2 := (((((((HQ.out.setCell (o := 0) HO2.out (.inr rfl) (.float .f64 (floatOfInt .f64 (x.d : Int)))).setCell (o := 1) (setCell_obj HO2.out 0 (.float .f64 (floatOfInt .f64 (x.d : Int)))) (.inr rfl) (.int .i64 x.r.x0)).setCell (o := 2) (setCell_obj (setCell_obj HO2.out 0 (.float .f64 (floatOfInt .f64 (x.d : Int)))) 1 (.int .i64 x.r.x0)) (.inr rfl) (.int .i64 x.r.y0)).setCell (o := 3) (setCell_obj (setCell_obj (setCell_obj HO2.out 0 (.float .f64 (floatOfInt .f64 (x.d : Int)))) 1 (.int .i64 x.r.x0)) 2 (.int .i64 x.r.y0)) (.inr rfl) (.int .i64 x.r.x1)).setCell (o := 4) (setCell_obj (setCell_obj (setCell_obj (setCell_obj HO2.out 0 (.float .f64 (floatOfInt .f64 (x.d : Int)))) 1 (.int .i64 x.r.x0)) 2 (.int .i64 x.r.y0)) 3 (.int .i64 x.r.x1)) (.inr rfl) (.int .i64 x.r.y1)).setCell (o := 5) (setCell_obj (setCell_obj (setCell_obj (setCell_obj (setCell_obj HO2.out 0 (.float .f64 (floatOfInt .f64 (x.d : Int)))) 1 (.int .i64 x.r.x0)) 2 (.int .i64 x.r.y0)) 3 (.int .i64 x.r.x1)) 4 (.int .i64 x.r.y1)) (.inr rfl) (.int .i64 x.v)).setCell (o := 6) (setCell_obj (setCell_obj (setCell_obj (setCell_obj (setCell_obj (setCell_obj HO2.out 0 (.float .f64 (floatOfInt .f64 (x.d : Int)))) 1 (.int .i64 x.r.x0)) 2 (.int .i64 x.r.y0)) 3 (.int .i64 x.r.x1)) 4 (.int .i64 x.r.y1)) 5 (.int .i64 x.v)) (.inr rfl) (.pointer x.p))
      have v2 : (((((((wr.setCell ⟨B2, 0, none⟩ (.float .f64 (floatOfInt .f64 (x.d : Int)))).setCell ⟨B2, 1, none⟩ (.int .i64 x.r.x0)).setCell ⟨B2, 2, none⟩ (.int .i64 x.r.y0)).setCell ⟨B2, 3, none⟩ (.int .i64 x.r.x1)).setCell ⟨B2, 4, none⟩ (.int .i64 x.r.y1)).setCell ⟨B2, 5, none⟩ (.int .i64 x.v)).setCell ⟨B2, 6, none⟩ (.pointer x.p)).heap[Bq]? = _ := ((setCell_ne 6 hqB2 (.pointer x.p) none).trans ((setCell_ne 5 hqB2 (.int .i64 x.v) none).trans ((setCell_ne 4 hqB2 (.int .i64 x.r.y1) none).trans ((setCell_ne 3 hqB2 (.int .i64 x.r.x1) none).trans ((setCell_ne 2 hqB2 (.int .i64 x.r.y0) none).trans ((setCell_ne 1 hqB2 (.int .i64 x.r.x0) none).trans ((setCell_ne 0 hqB2 (.float .f64 (floatOfInt .f64 (x.d : Int))) none).trans HV.out)))))))
      have r2 : (((((((wr.setCell ⟨B2, 0, none⟩ (.float .f64 (floatOfInt .f64 (x.d : Int)))).setCell ⟨B2, 1, none⟩ (.int .i64 x.r.x0)).setCell ⟨B2, 2, none⟩ (.int .i64 x.r.y0)).setCell ⟨B2, 3, none⟩ (.int .i64 x.r.x1)).setCell ⟨B2, 4, none⟩ (.int .i64 x.r.y1)).setCell ⟨B2, 5, none⟩ (.int .i64 x.v)).setCell ⟨B2, 6, none⟩ (.pointer x.p)).Row base 126 7 qnV (.slice (some ⟨g, 0, none⟩) m cap) M := HROW.out.of_block fun k hk => by
        simp only [Value.ownBlock, Option.some.injEq] at hk
        subst hk
        exact ((setCell_ne 6 hgB2 (.pointer x.p) none).trans ((setCell_ne 5 hgB2 (.int .i64 x.v) none).trans ((setCell_ne 4 hgB2 (.int .i64 x.r.y1) none).trans ((setCell_ne 3 hgB2 (.int .i64 x.r.x1) none).trans ((setCell_ne 2 hgB2 (.int .i64 x.r.y0) none).trans ((setCell_ne 1 hgB2 (.int .i64 x.r.x0) none).trans ((setCell_ne 0 hgB2 (.float .f64 (floatOfInt .f64 (x.d : Int))) none).trans rfl)))))))
      have O2 := Lib.hid o2
      have X2 := Lib.hid x2
      have Q2 := Lib.hid q2
      have V2 := Lib.hid v2
      have R2 := Lib.hid r2
      clear o2 x2 q2 v2 r2
      go_wp2_with fail
      generalize (((((((wr.setCell ⟨B2, 0, none⟩ (.float .f64 (floatOfInt .f64 (x.d : Int)))).setCell ⟨B2, 1, none⟩ (.int .i64 x.r.x0)).setCell ⟨B2, 2, none⟩ (.int .i64 x.r.y0)).setCell ⟨B2, 3, none⟩ (.int .i64 x.r.x1)).setCell ⟨B2, 4, none⟩ (.int .i64 x.r.y1)).setCell ⟨B2, 5, none⟩ (.int .i64 x.v)).setCell ⟨B2, 6, none⟩ (.pointer x.p)) = wz at O2 X2 Q2 V2 R2 ⊢
      clear a0 b0 f0 a1 b1 f1 a2 b2 f2 a3 b3 f3 a4 b4 f4 a5 b5 f5 a6 b6 f6
      have b0 := cellOf O2.out 0
      have b1 := cellOf O2.out 1
      have b2 := cellOf O2.out 2
      have b3 := cellOf O2.out 3
      have b4 := cellOf O2.out 4
      have b5 := cellOf O2.out 5
      have b6 := cellOf O2.out 6
      simp only [List.getElem?_toArray, List.getElem?_cons_zero, List.getElem?_cons_succ] at b0 b1 b2 b3 b4 b5 b6
      refine bodyPost_ret (v := .tuple #[.agg #[.float .f64 (floatOfInt .f64 (x.d : Int)), .int .i64 x.r.x0, .int .i64 x.r.y0, .int .i64 x.r.x1, .int .i64 x.r.y1, .int .i64 x.v, .pointer x.p], .bool true]) (by simp [results, Try.results75, go_sem, b0, b1, b2, b3, b4, b5, b6]) rfl ?_
      exact ⟨x, M, rfl, (HPM.out.cons x).trans HPP.out, fun y hy => HLE.out y (HPM.out.mem_iff.1 hy), HH.out, ⟨lb, _, V2.out, R2.out⟩, X2.out, Q2.out⟩
    have hkm1 : k < m := by omega
    obtain ⟨yk, hyk⟩ : ∃ y, M[k]? = some y := ⟨M[k]'(by have := HML.out; omega), List.getElem?_eq_getElem _⟩
    have dyk := HKD.out yk (HPM.out.mem_iff.1 (List.mem_of_getElem? hyk))
    have Kyk := Lib.hid (kyL_get QN.d hyk)
    have Hyk := Lib.hid hyk
    clear hyk
    obtain ⟨yl, hyl⟩ : ∃ y, M[l]? = some y := ⟨M[l]'(by have := HML.out; omega), List.getElem?_eq_getElem _⟩
    have dyl := HKD.out yl (HPM.out.mem_iff.1 (List.mem_of_getElem? hyl))
    have Kyl := Lib.hid (kyL_get QN.d hyl)
    have Hyl := Lib.hid hyl
    clear hyl
    have g1 : decide ((l : Int) < (m : Int)) = true := decide_eq_true (by omega)
    have hlmi : (l : Int) < m := by omega
    have hkmi : (k : Int) < m := by omega
    have ck := (row_cells7 HROW.out Hyk.out).1
    have cl := (row_cells7 HROW.out Hyl.out).1
    have gl := fl_le yl.d yk.d dyl dyk
    by_cases hle : yl.d ≤ yk.d
    · rw [decide_eq_true hle] at gl
      (refine Mix.wp_region_dr (by kernel_rfl) (by kernel_rfl) ?_; (repeat (go_big_quiet_step (fail))); refine wpQuiet_nil ?_; intro nq)
      have HROW9 := Lib.hid (HROW.out.ex ((Mix.Ex.refl wr).drewN nq))
      have HX9 := Lib.hid (HX.out.drewN nq)
      have HQ9 := Lib.hid (HQ.out.ex ((Mix.Ex.refl wr).drewN nq))
      have HV9 : Hid ((wr.drewN nq).heap[Bq]? = _) := Lib.hid HV.out
      have HO29 : Hid ((wr.drewN nq).heap[B2]? = _) := Lib.hid HO2.out
      have HO59 : Hid ((wr.drewN nq).heap[B5]? = _) := Lib.hid HO5.out
      clear HROW HX HQ HV HO2 HO5
      generalize wr.drewN nq = wr at HROW9 HX9 HQ9 HV9 HO29 HO59 ⊢
      have HROW := HROW9
      have HX := HX9
      have HQ := HQ9
      have HV := HV9
      have HO2 := HO29
      have HO5 := HO59
      clear HROW9 HX9 HQ9 HV9 HO29 HO59
      clear ck cl gl g1
      go_upto_region 14 with (fail)
      by_cases hrm : r < m
      case neg =>
        have g2 : decide ((r : Int) < (m : Int)) = false := decide_eq_false (by omega)
        (refine Mix.wp_region_dr (by kernel_rfl) (by kernel_rfl) ?_; (repeat (go_big_quiet_step (fail))); refine wpQuiet_nil ?_; intro nq)
        have HROW9 := Lib.hid (HROW.out.ex ((Mix.Ex.refl wr).drewN nq))
        have HX9 := Lib.hid (HX.out.drewN nq)
        have HQ9 := Lib.hid (HQ.out.ex ((Mix.Ex.refl wr).drewN nq))
        have HV9 : Hid ((wr.drewN nq).heap[Bq]? = _) := Lib.hid HV.out
        have HO29 : Hid ((wr.drewN nq).heap[B2]? = _) := Lib.hid HO2.out
        have HO59 : Hid ((wr.drewN nq).heap[B5]? = _) := Lib.hid HO5.out
        clear HROW HX HQ HV HO2 HO5
        generalize wr.drewN nq = wr at HROW9 HX9 HQ9 HV9 HO29 HO59 ⊢
        have HROW := HROW9
        have HX := HX9
        have HQ := HQ9
        have HV := HV9
        have HO2 := HO29
        have HO5 := HO59
        clear HROW9 HX9 HQ9 HV9 HO29 HO59
        have hsk : ((l : Int) == k) = false := by simp; omega
        go_upto_region 17 with (fail)
        clear hsk
        have HROW9 := HROW
        have HX9 := HX
        have HQ9 := HQ
        have HV9 := HV
        have HC9 := HO2
        have HD9 := HO5
        have HY := Hyk
        have HZ := Hyl
        clear HROW HX HQ HV HO2 HO5
        have hjk1 : (l : Int) < m := by omega
        have hjk2 : (k : Int) < m := by omega
        generalize hw9 : wr = w9 at HROW9 HX9 HQ9 HV9 HC9 HD9 ⊢
        clear hw9
        obtain ⟨a0, a1, a2, a3, a4, a5, a6⟩ := row_cells7 HROW9.out HY.out
        obtain ⟨c0, c1, c2, c3, c4, c5, c6⟩ := row_cells7 HROW9.out HZ.out
        have a0 : (w9.drewN 1).cell? _ = _ := a0
        have a1 : (w9.drewN 1).cell? _ = _ := a1
        have a2 : (w9.drewN 1).cell? _ = _ := a2
        have a3 : (w9.drewN 1).cell? _ = _ := a3
        have a4 : (w9.drewN 1).cell? _ = _ := a4
        have a5 : (w9.drewN 1).cell? _ = _ := a5
        have a6 : (w9.drewN 1).cell? _ = _ := a6
        have c0 : (w9.drewN 1).cell? _ = _ := c0
        have c1 : (w9.drewN 1).cell? _ = _ := c1
        have c2 : (w9.drewN 1).cell? _ = _ := c2
        have c3 : (w9.drewN 1).cell? _ = _ := c3
        have c4 : (w9.drewN 1).cell? _ = _ := c4
        have c5 : (w9.drewN 1).cell? _ = _ := c5
        have c6 : (w9.drewN 1).cell? _ = _ := c6
        have hrowA := HROW9.out.ex ((Mix.Ex.refl w9).drewN 1)
        have hxA := HX9.out.drewN 1
        have hqA := HQ9.out.ex ((Mix.Ex.refl w9).drewN 1)
        have hVA : (w9.drewN 1).heap[_]? = _ := HV9.out
        have hCA : (w9.drewN 1).heap[_]? = _ := HC9.out
        have hDA : (w9.drewN 1).heap[_]? = _ := HD9.out
        have HC : True := trivial
        refine wp_region_K (fun _ => True) 15 (by kernel_rfl) ?_
        change wpAnyK _ _ _ _ _ 16 (Array.replicate 16 false) _ _
        (refine wpAnyK_take (i := 0) (oi := ?_) (v := ?_) ?_ ?_ ?_ ?_ ?_ ?_ ?_ ?_ ?_; rotate_left 2; (focus (simp only [List.getElem?_toArray, List.getElem?_cons_zero, List.getElem?_cons_succ]; rfl)); (focus kernel_rfl); (focus kernel_rfl); (focus kernel_rfl); (focus kernel_rfl); (focus exact fun _ _ _ h => h); (focus (refine Or.inl ⟨by rfl, ?_⟩; intro W hW; (try dsimp only at hW); go_simp; try with_reducible rfl)); (focus exact HC); (try simp only [Act.put, List.setIfInBounds_toArray, List.set_cons_zero, List.set_cons_succ]))
        (refine wpAnyK_take (i := 1) (oi := ?_) (v := ?_) ?_ ?_ ?_ ?_ ?_ ?_ ?_ ?_ ?_; rotate_left 2; (focus (simp only [List.getElem?_toArray, List.getElem?_cons_zero, List.getElem?_cons_succ]; rfl)); (focus kernel_rfl); (focus kernel_rfl); (focus kernel_rfl); (focus kernel_rfl); (focus exact fun _ _ _ h => h); (focus (refine Or.inl ⟨by rfl, ?_⟩; intro W hW; (try dsimp only at hW); go_simp; try with_reducible rfl)); (focus exact HC); (try simp only [Act.put, List.setIfInBounds_toArray, List.set_cons_zero, List.set_cons_succ]))
        (refine wpAnyK_take (i := 2) (oi := ?_) (v := ?_) ?_ ?_ ?_ ?_ ?_ ?_ ?_ ?_ ?_; rotate_left 2; (focus (simp only [List.getElem?_toArray, List.getElem?_cons_zero, List.getElem?_cons_succ]; rfl)); (focus kernel_rfl); (focus kernel_rfl); (focus kernel_rfl); (focus kernel_rfl); (focus exact fun _ _ _ h => h); (focus (refine Or.inl ⟨by rfl, ?_⟩; intro W hW; (try dsimp only at hW); go_simp; try with_reducible rfl)); (focus exact HC); (try simp only [Act.put, List.setIfInBounds_toArray, List.set_cons_zero, List.set_cons_succ]))
        (refine wpAnyK_take (i := 3) (oi := ?_) (v := ?_) ?_ ?_ ?_ ?_ ?_ ?_ ?_ ?_ ?_; rotate_left 2; (focus (simp only [List.getElem?_toArray, List.getElem?_cons_zero, List.getElem?_cons_succ]; rfl)); (focus kernel_rfl); (focus kernel_rfl); (focus kernel_rfl); (focus kernel_rfl); (focus exact fun _ _ _ h => h); (focus (refine Or.inl ⟨by rfl, ?_⟩; intro W hW; (try dsimp only at hW); go_simp; try with_reducible rfl)); (focus exact HC); (try simp only [Act.put, List.setIfInBounds_toArray, List.set_cons_zero, List.set_cons_succ]))
        (refine wpAnyK_take (i := 4) (oi := ?_) (v := ?_) ?_ ?_ ?_ ?_ ?_ ?_ ?_ ?_ ?_; rotate_left 2; (focus (simp only [List.getElem?_toArray, List.getElem?_cons_zero, List.getElem?_cons_succ]; rfl)); (focus kernel_rfl); (focus kernel_rfl); (focus kernel_rfl); (focus kernel_rfl); (focus exact fun _ _ _ h => h); (focus (refine Or.inl ⟨by rfl, ?_⟩; intro W hW; (try dsimp only at hW); go_simp; try with_reducible rfl)); (focus exact HC); (try simp only [Act.put, List.setIfInBounds_toArray, List.set_cons_zero, List.set_cons_succ]))
        (refine wpAnyK_take (i := 5) (oi := ?_) (v := ?_) ?_ ?_ ?_ ?_ ?_ ?_ ?_ ?_ ?_; rotate_left 2; (focus (simp only [List.getElem?_toArray, List.getElem?_cons_zero, List.getElem?_cons_succ]; rfl)); (focus kernel_rfl); (focus kernel_rfl); (focus kernel_rfl); (focus kernel_rfl); (focus exact fun _ _ _ h => h); (focus (refine Or.inl ⟨by rfl, ?_⟩; intro W hW; (try dsimp only at hW); go_simp; try with_reducible rfl)); (focus exact HC); (try simp only [Act.put, List.setIfInBounds_toArray, List.set_cons_zero, List.set_cons_succ]))
        (refine wpAnyK_take (i := 6) (oi := ?_) (v := ?_) ?_ ?_ ?_ ?_ ?_ ?_ ?_ ?_ ?_; rotate_left 2; (focus (simp only [List.getElem?_toArray, List.getElem?_cons_zero, List.getElem?_cons_succ]; rfl)); (focus kernel_rfl); (focus kernel_rfl); (focus kernel_rfl); (focus kernel_rfl); (focus exact fun _ _ _ h => h); (focus (refine Or.inl ⟨by rfl, ?_⟩; intro W hW; (try dsimp only at hW); go_simp; try with_reducible rfl)); (focus exact HC); (try simp only [Act.put, List.setIfInBounds_toArray, List.set_cons_zero, List.set_cons_succ]))
        (refine wpAnyK_take (i := 8) (oi := ?_) (v := ?_) ?_ ?_ ?_ ?_ ?_ ?_ ?_ ?_ ?_; rotate_left 2; (focus (simp only [List.getElem?_toArray, List.getElem?_cons_zero, List.getElem?_cons_succ]; rfl)); (focus kernel_rfl); (focus kernel_rfl); (focus kernel_rfl); (focus kernel_rfl); (focus exact fun _ _ _ h => h); (focus (refine Or.inl ⟨by rfl, ?_⟩; intro W hW; (try dsimp only at hW); go_simp; try with_reducible rfl)); (focus exact HC); (try simp only [Act.put, List.setIfInBounds_toArray, List.set_cons_zero, List.set_cons_succ]))
        (refine wpAnyK_take (i := 9) (oi := ?_) (v := ?_) ?_ ?_ ?_ ?_ ?_ ?_ ?_ ?_ ?_; rotate_left 2; (focus (simp only [List.getElem?_toArray, List.getElem?_cons_zero, List.getElem?_cons_succ]; rfl)); (focus kernel_rfl); (focus kernel_rfl); (focus kernel_rfl); (focus kernel_rfl); (focus exact fun _ _ _ h => h); (focus (refine Or.inl ⟨by rfl, ?_⟩; intro W hW; (try dsimp only at hW); go_simp; try with_reducible rfl)); (focus exact HC); (try simp only [Act.put, List.setIfInBounds_toArray, List.set_cons_zero, List.set_cons_succ]))
        (refine wpAnyK_take (i := 10) (oi := ?_) (v := ?_) ?_ ?_ ?_ ?_ ?_ ?_ ?_ ?_ ?_; rotate_left 2; (focus (simp only [List.getElem?_toArray, List.getElem?_cons_zero, List.getElem?_cons_succ]; rfl)); (focus kernel_rfl); (focus kernel_rfl); (focus kernel_rfl); (focus kernel_rfl); (focus exact fun _ _ _ h => h); (focus (refine Or.inl ⟨by rfl, ?_⟩; intro W hW; (try dsimp only at hW); go_simp; try with_reducible rfl)); (focus exact HC); (try simp only [Act.put, List.setIfInBounds_toArray, List.set_cons_zero, List.set_cons_succ]))
        generalize w9.drewN 1 = wA at a0 a1 a2 a3 a4 a5 a6 c0 c1 c2 c3 c4 c5 c6 hrowA hxA hqA hVA hCA hDA ⊢
        have HROWA := Lib.hid hrowA
        have HXA := Lib.hid hxA
        have HQA := Lib.hid hqA
        have HVA := Lib.hid hVA
        clear hVA
        have HCA := Lib.hid hCA
        clear hCA
        have HDA := Lib.hid hDA
        clear hDA
        clear hrowA hxA hqA
        refine wpAnyK_rgC (us := [7, 11]) (fun _ _ => True)
          (fun i v W => match i with
            | 7 => v = .agg #[.float .f64 (floatOfInt .f64 (yk.d : Int)), .int .i64 yk.r.x0, .int .i64 yk.r.y0, .int .i64 yk.r.x1, .int .i64 yk.r.y1, .int .i64 yk.v, .pointer yk.p]
            | 11 => v = .agg #[.float .f64 (floatOfInt .f64 (yl.d : Int)), .int .i64 yl.r.x0, .int .i64 yl.r.y0, .int .i64 yl.r.x1, .int .i64 yl.r.y1, .int .i64 yl.v, .pointer yl.p]
            | _ => True)
          (fun _ => Mix.Ex) (fun W => wA = W) (by kernel_rfl) 4 (fun _ _ => trivial) rfl (fun _ _ => trivial) (fun _ _ _ _ _ _ _ _ _ => trivial) ?_ ?_ ?_
        · intro i hi j' hj' hij v W W' hv hg
          simp only [List.mem_cons, List.not_mem_nil, or_false] at hi
          rcases hi with rfl | rfl
          · exact hv
          · exact hv
        · intro i hi
          simp only [List.mem_cons, List.not_mem_nil, or_false] at hi
          rcases hi with rfl | rfl
          · intro o ho v0 W hI hb hd K hK
            simp only [List.getElem?_toArray, List.getElem?_cons_zero, List.getElem?_cons_succ, Option.some.injEq] at ho
            subst ho
            simp only [putU, dstOf, List.getElem?_toArray, List.getElem?_cons_zero, List.getElem?_cons_succ, Option.bind_some, Act.put, List.setIfInBounds_toArray, List.set_cons_zero, List.set_cons_succ] at hK ⊢
            subst hI
            clear hd hb
            go_simp
            exact hK _ _ rfl (Mix.Ex.refl _) rfl
          · intro o ho v0 W hI hb hd K hK
            simp only [List.getElem?_toArray, List.getElem?_cons_zero, List.getElem?_cons_succ, Option.some.injEq] at ho
            subst ho
            simp only [putU, dstOf, List.getElem?_toArray, List.getElem?_cons_zero, List.getElem?_cons_succ, Option.bind_some, Act.put, List.setIfInBounds_toArray, List.set_cons_zero, List.set_cons_succ] at hK ⊢
            subst hI
            clear hd hb
            go_simp
            exact hK _ _ rfl (Mix.Ex.refl _) rfl
        intro v0 W hI hA
        subst hI
        have e9 : v0 7 = _ := hA 7 (by simp)
        have e13 : v0 11 = _ := hA 11 (by simp)
        clear hA
        simp only [putU, dstOf, List.getElem?_toArray, List.getElem?_cons_zero, List.getElem?_cons_succ, Option.bind_some, Act.put, List.setIfInBounds_toArray, List.set_cons_zero, List.set_cons_succ]
        rw [e9, e13]
        clear e9 e13 v0
        clear a0 a1 a2 a3 a4 a5 a6
        (refine wpAnyK_one (i := 12) (o := ?_) ?_ ?_ ?_ (fun K hK => ?_); rotate_left 1; (focus kernel_rfl); (focus (simp only [List.getElem?_toArray, List.getElem?_cons_zero, List.getElem?_cons_succ]; rfl)); (focus rfl))
        go_simp
        refine hK _ _ (fun _ => trivial) ?_
        clear hK K
        have f0 := Row.frz HROWA.out (l * 7)
        have f1 := Row.frz HROWA.out (l * 7 + 1)
        have f2 := Row.frz HROWA.out (l * 7 + 2)
        have f3 := Row.frz HROWA.out (l * 7 + 3)
        have f4 := Row.frz HROWA.out (l * 7 + 4)
        have f5 := Row.frz HROWA.out (l * 7 + 5)
        have f6 := Row.frz HROWA.out (l * 7 + 6)
        obtain ⟨r1, x1, q1, o1⟩ := qn_write HROWA.out HML.out (k := l) (by omega) yk HXA.out h0 HQA.out
        have R1 := Lib.hid r1
        have X1 := Lib.hid x1
        have Q1 := Lib.hid q1
        have V1 := Lib.hid ((o1 _ HBG.out).trans HVA.out)
        have C1 := Lib.hid ((o1 _ HBG2.out).trans HCA.out)
        have D1 := Lib.hid ((o1 _ HBG5.out).trans HDA.out)
        clear r1 x1 q1 o1
        (refine wpAnyK_one (i := 13) (o := ?_) ?_ ?_ ?_ (fun K hK => ?_); rotate_left 1; (focus kernel_rfl); (focus (simp only [List.getElem?_toArray, List.getElem?_cons_zero, List.getElem?_cons_succ]; rfl)); (focus rfl))
        go_simp
        generalize (((((((wA.setCell ⟨g, l * 7, none⟩ (.float .f64 (floatOfInt .f64 (yk.d : Int)))).setCell ⟨g, l * 7 + 1, none⟩ (.int .i64 yk.r.x0)).setCell ⟨g, l * 7 + 2, none⟩ (.int .i64 yk.r.y0)).setCell ⟨g, l * 7 + 3, none⟩ (.int .i64 yk.r.x1)).setCell ⟨g, l * 7 + 4, none⟩ (.int .i64 yk.r.y1)).setCell ⟨g, l * 7 + 5, none⟩ (.int .i64 yk.v)).setCell ⟨g, l * 7 + 6, none⟩ (.pointer yk.p)) = wB at R1 X1 Q1 V1 C1 D1 hK ⊢
        refine hK _ _ (fun _ => trivial) ?_
        clear hK K c0 c1 c2 c3 c4 c5 c6 f0 f1 f2 f3 f4 f5 f6
        (refine wpAnyK_one (i := 14) (o := ?_) ?_ ?_ ?_ (fun K hK => ?_); rotate_left 1; (focus kernel_rfl); (focus (simp only [List.getElem?_toArray, List.getElem?_cons_zero, List.getElem?_cons_succ]; rfl)); (focus rfl))
        go_simp
        refine hK _ _ (fun _ => trivial) ?_
        clear hK K
        have hyB : (M.set l yk)[k]? = some yk := by rw [List.getElem?_set_ne (by omega)]; exact HY.out
        obtain ⟨a0, a1, a2, a3, a4, a5, a6⟩ := row_cells7 R1.out hyB
        have f0 := Row.frz R1.out (k * 7)
        have f1 := Row.frz R1.out (k * 7 + 1)
        have f2 := Row.frz R1.out (k * 7 + 2)
        have f3 := Row.frz R1.out (k * 7 + 3)
        have f4 := Row.frz R1.out (k * 7 + 4)
        have f5 := Row.frz R1.out (k * 7 + 5)
        have f6 := Row.frz R1.out (k * 7 + 6)
        obtain ⟨r1, x1, q1, o1⟩ := qn_write R1.out (by rw [List.length_set]; exact HML.out) (k := k) (by omega) yl X1.out h0 Q1.out
        have R2 := Lib.hid r1
        have X2 := Lib.hid x1
        have Q2 := Lib.hid q1
        have V2 := Lib.hid ((o1 _ HBG.out).trans V1.out)
        have C2 := Lib.hid ((o1 _ HBG2.out).trans C1.out)
        have D2 := Lib.hid ((o1 _ HBG5.out).trans D1.out)
        clear r1 x1 q1 o1
        (refine wpAnyK_one (i := 15) (o := ?_) ?_ ?_ ?_ (fun K hK => ?_); rotate_left 1; (focus kernel_rfl); (focus (simp only [List.getElem?_toArray, List.getElem?_cons_zero, List.getElem?_cons_succ]; rfl)); (focus rfl))
        go_simp
        generalize (((((((wB.setCell ⟨g, k * 7, none⟩ (.float .f64 (floatOfInt .f64 (yl.d : Int)))).setCell ⟨g, k * 7 + 1, none⟩ (.int .i64 yl.r.x0)).setCell ⟨g, k * 7 + 2, none⟩ (.int .i64 yl.r.y0)).setCell ⟨g, k * 7 + 3, none⟩ (.int .i64 yl.r.x1)).setCell ⟨g, k * 7 + 4, none⟩ (.int .i64 yl.r.y1)).setCell ⟨g, k * 7 + 5, none⟩ (.int .i64 yl.v)).setCell ⟨g, k * 7 + 6, none⟩ (.pointer yl.p)) = wC at R2 X2 Q2 V2 C2 D2 hK ⊢
        refine hK _ _ (fun _ => trivial) ?_
        clear hK K a0 a1 a2 a3 a4 a5 a6 f0 f1 f2 f3 f4 f5 f6 hyB
        refine wpAnyK_done (by kernel_rfl) ?_ _
        have hsw : HeapDn (kyL QN.d ((M.set l yk).set k yl)) m l := by
          rw [sw_ky QN.d Hyl.out Hyk.out]
          refine HDN.out.step (by omega) (by omega) (by omega) (by rw [Kyl.out, Kyk.out]; omega) fun t t0 tn tp => ?_
          rcases (by omega : t = l ∨ t = r) with rfl | rfl
          · exact Nat.le_refl _
          · omega
        have HSW := Lib.hid hsw
        have HPS := Lib.hid (sw_perm Hyl.out Hyk.out)
        clear hsw
        go_wp2_with fail
        go_roundw
        case measure => simp [intOf]; omega
        case rel => exact ⟨l, by omega, by go_num, ⟨_, R2.out, HPS.out.trans HPM.out, HSW.out, by omega⟩, V2.out, C2.out, D2.out, X2.out, Q2.out⟩
      obtain ⟨yr, hyr⟩ : ∃ y, M[r]? = some y := ⟨M[r]'(by have := HML.out; omega), List.getElem?_eq_getElem _⟩
      have dyr := HKD.out yr (HPM.out.mem_iff.1 (List.mem_of_getElem? hyr))
      have Kyr := Lib.hid (kyL_get QN.d hyr)
      have Hyr := Lib.hid hyr
      clear hyr
      have g2 : decide ((r : Int) < (m : Int)) = true := decide_eq_true (by omega)
      have hrmi : (r : Int) < m := by omega
      have cs := (row_cells7 HROW.out Hyl.out).1
      have cr := (row_cells7 HROW.out Hyr.out).1
      have gr := fl_le yr.d yl.d dyr dyl
      by_cases hre : yr.d ≤ yl.d
      · rw [decide_eq_true hre] at gr
        (refine Mix.wp_region_dr (by kernel_rfl) (by kernel_rfl) ?_; (repeat (go_big_quiet_step (fail))); refine wpQuiet_nil ?_; intro nq)
        have HROW9 := Lib.hid (HROW.out.ex ((Mix.Ex.refl wr).drewN nq))
        have HX9 := Lib.hid (HX.out.drewN nq)
        have HQ9 := Lib.hid (HQ.out.ex ((Mix.Ex.refl wr).drewN nq))
        have HV9 : Hid ((wr.drewN nq).heap[Bq]? = _) := Lib.hid HV.out
        have HO29 : Hid ((wr.drewN nq).heap[B2]? = _) := Lib.hid HO2.out
        have HO59 : Hid ((wr.drewN nq).heap[B5]? = _) := Lib.hid HO5.out
        clear HROW HX HQ HV HO2 HO5
        generalize wr.drewN nq = wr at HROW9 HX9 HQ9 HV9 HO29 HO59 ⊢
        have HROW := HROW9
        have HX := HX9
        have HQ := HQ9
        have HV := HV9
        have HO2 := HO29
        have HO5 := HO59
        clear HROW9 HX9 HQ9 HV9 HO29 HO59
        clear cs cr gr g2
        have hsk : ((r : Int) == k) = false := by simp; omega
        go_upto_region 17 with (fail)
        clear hsk
        have HROW9 := HROW
        have HX9 := HX
        have HQ9 := HQ
        have HV9 := HV
        have HC9 := HO2
        have HD9 := HO5
        have HY := Hyk
        have HZ := Hyr
        clear HROW HX HQ HV HO2 HO5
        have hjk1 : (r : Int) < m := by omega
        have hjk2 : (k : Int) < m := by omega
        generalize hw9 : wr = w9 at HROW9 HX9 HQ9 HV9 HC9 HD9 ⊢
        clear hw9
        obtain ⟨a0, a1, a2, a3, a4, a5, a6⟩ := row_cells7 HROW9.out HY.out
        obtain ⟨c0, c1, c2, c3, c4, c5, c6⟩ := row_cells7 HROW9.out HZ.out
        have a0 : (w9.drewN 1).cell? _ = _ := a0
        have a1 : (w9.drewN 1).cell? _ = _ := a1
        have a2 : (w9.drewN 1).cell? _ = _ := a2
        have a3 : (w9.drewN 1).cell? _ = _ := a3
        have a4 : (w9.drewN 1).cell? _ = _ := a4
        have a5 : (w9.drewN 1).cell? _ = _ := a5
        have a6 : (w9.drewN 1).cell? _ = _ := a6
        have c0 : (w9.drewN 1).cell? _ = _ := c0
        have c1 : (w9.drewN 1).cell? _ = _ := c1
        have c2 : (w9.drewN 1).cell? _ = _ := c2
        have c3 : (w9.drewN 1).cell? _ = _ := c3
        have c4 : (w9.drewN 1).cell? _ = _ := c4
        have c5 : (w9.drewN 1).cell? _ = _ := c5
        have c6 : (w9.drewN 1).cell? _ = _ := c6
        have hrowA := HROW9.out.ex ((Mix.Ex.refl w9).drewN 1)
        have hxA := HX9.out.drewN 1
        have hqA := HQ9.out.ex ((Mix.Ex.refl w9).drewN 1)
        have hVA : (w9.drewN 1).heap[_]? = _ := HV9.out
        have hCA : (w9.drewN 1).heap[_]? = _ := HC9.out
        have hDA : (w9.drewN 1).heap[_]? = _ := HD9.out
        have HC : True := trivial
        refine wp_region_K (fun _ => True) 15 (by kernel_rfl) ?_
        change wpAnyK _ _ _ _ _ 16 (Array.replicate 16 false) _ _
        (refine wpAnyK_take (i := 0) (oi := ?_) (v := ?_) ?_ ?_ ?_ ?_ ?_ ?_ ?_ ?_ ?_; rotate_left 2; (focus (simp only [List.getElem?_toArray, List.getElem?_cons_zero, List.getElem?_cons_succ]; rfl)); (focus kernel_rfl); (focus kernel_rfl); (focus kernel_rfl); (focus kernel_rfl); (focus exact fun _ _ _ h => h); (focus (refine Or.inl ⟨by rfl, ?_⟩; intro W hW; (try dsimp only at hW); go_simp; try with_reducible rfl)); (focus exact HC); (try simp only [Act.put, List.setIfInBounds_toArray, List.set_cons_zero, List.set_cons_succ]))
        (refine wpAnyK_take (i := 1) (oi := ?_) (v := ?_) ?_ ?_ ?_ ?_ ?_ ?_ ?_ ?_ ?_; rotate_left 2; (focus (simp only [List.getElem?_toArray, List.getElem?_cons_zero, List.getElem?_cons_succ]; rfl)); (focus kernel_rfl); (focus kernel_rfl); (focus kernel_rfl); (focus kernel_rfl); (focus exact fun _ _ _ h => h); (focus (refine Or.inl ⟨by rfl, ?_⟩; intro W hW; (try dsimp only at hW); go_simp; try with_reducible rfl)); (focus exact HC); (try simp only [Act.put, List.setIfInBounds_toArray, List.set_cons_zero, List.set_cons_succ]))
        (refine wpAnyK_take (i := 2) (oi := ?_) (v := ?_) ?_ ?_ ?_ ?_ ?_ ?_ ?_ ?_ ?_; rotate_left 2; (focus (simp only [List.getElem?_toArray, List.getElem?_cons_zero, List.getElem?_cons_succ]; rfl)); (focus kernel_rfl); (focus kernel_rfl); (focus kernel_rfl); (focus kernel_rfl); (focus exact fun _ _ _ h => h); (focus (refine Or.inl ⟨by rfl, ?_⟩; intro W hW; (try dsimp only at hW); go_simp; try with_reducible rfl)); (focus exact HC); (try simp only [Act.put, List.setIfInBounds_toArray, List.set_cons_zero, List.set_cons_succ]))
        (refine wpAnyK_take (i := 3) (oi := ?_) (v := ?_) ?_ ?_ ?_ ?_ ?_ ?_ ?_ ?_ ?_; rotate_left 2; (focus (simp only [List.getElem?_toArray, List.getElem?_cons_zero, List.getElem?_cons_succ]; rfl)); (focus kernel_rfl); (focus kernel_rfl); (focus kernel_rfl); (focus kernel_rfl); (focus exact fun _ _ _ h => h); (focus (refine Or.inl ⟨by rfl, ?_⟩; intro W hW; (try dsimp only at hW); go_simp; try with_reducible rfl)); (focus exact HC); (try simp only [Act.put, List.setIfInBounds_toArray, List.set_cons_zero, List.set_cons_succ]))
        (refine wpAnyK_take (i := 4) (oi := ?_) (v := ?_) ?_ ?_ ?_ ?_ ?_ ?_ ?_ ?_ ?_; rotate_left 2; (focus (simp only [List.getElem?_toArray, List.getElem?_cons_zero, List.getElem?_cons_succ]; rfl)); (focus kernel_rfl); (focus kernel_rfl); (focus kernel_rfl); (focus kernel_rfl); (focus exact fun _ _ _ h => h); (focus (refine Or.inl ⟨by rfl, ?_⟩; intro W hW; (try dsimp only at hW); go_simp; try with_reducible rfl)); (focus exact HC); (try simp only [Act.put, List.setIfInBounds_toArray, List.set_cons_zero, List.set_cons_succ]))
        (refine wpAnyK_take (i := 5) (oi := ?_) (v := ?_) ?_ ?_ ?_ ?_ ?_ ?_ ?_ ?_ ?_; rotate_left 2; (focus (simp only [List.getElem?_toArray, List.getElem?_cons_zero, List.getElem?_cons_succ]; rfl)); (focus kernel_rfl); (focus kernel_rfl); (focus kernel_rfl); (focus kernel_rfl); (focus exact fun _ _ _ h => h); (focus (refine Or.inl ⟨by rfl, ?_⟩; intro W hW; (try dsimp only at hW); go_simp; try with_reducible rfl)); (focus exact HC); (try simp only [Act.put, List.setIfInBounds_toArray, List.set_cons_zero, List.set_cons_succ]))
        (refine wpAnyK_take (i := 6) (oi := ?_) (v := ?_) ?_ ?_ ?_ ?_ ?_ ?_ ?_ ?_ ?_; rotate_left 2; (focus (simp only [List.getElem?_toArray, List.getElem?_cons_zero, List.getElem?_cons_succ]; rfl)); (focus kernel_rfl); (focus kernel_rfl); (focus kernel_rfl); (focus kernel_rfl); (focus exact fun _ _ _ h => h); (focus (refine Or.inl ⟨by rfl, ?_⟩; intro W hW; (try dsimp only at hW); go_simp; try with_reducible rfl)); (focus exact HC); (try simp only [Act.put, List.setIfInBounds_toArray, List.set_cons_zero, List.set_cons_succ]))
        (refine wpAnyK_take (i := 8) (oi := ?_) (v := ?_) ?_ ?_ ?_ ?_ ?_ ?_ ?_ ?_ ?_; rotate_left 2; (focus (simp only [List.getElem?_toArray, List.getElem?_cons_zero, List.getElem?_cons_succ]; rfl)); (focus kernel_rfl); (focus kernel_rfl); (focus kernel_rfl); (focus kernel_rfl); (focus exact fun _ _ _ h => h); (focus (refine Or.inl ⟨by rfl, ?_⟩; intro W hW; (try dsimp only at hW); go_simp; try with_reducible rfl)); (focus exact HC); (try simp only [Act.put, List.setIfInBounds_toArray, List.set_cons_zero, List.set_cons_succ]))
        (refine wpAnyK_take (i := 9) (oi := ?_) (v := ?_) ?_ ?_ ?_ ?_ ?_ ?_ ?_ ?_ ?_; rotate_left 2; (focus (simp only [List.getElem?_toArray, List.getElem?_cons_zero, List.getElem?_cons_succ]; rfl)); (focus kernel_rfl); (focus kernel_rfl); (focus kernel_rfl); (focus kernel_rfl); (focus exact fun _ _ _ h => h); (focus (refine Or.inl ⟨by rfl, ?_⟩; intro W hW; (try dsimp only at hW); go_simp; try with_reducible rfl)); (focus exact HC); (try simp only [Act.put, List.setIfInBounds_toArray, List.set_cons_zero, List.set_cons_succ]))
        (refine wpAnyK_take (i := 10) (oi := ?_) (v := ?_) ?_ ?_ ?_ ?_ ?_ ?_ ?_ ?_ ?_; rotate_left 2; (focus (simp only [List.getElem?_toArray, List.getElem?_cons_zero, List.getElem?_cons_succ]; rfl)); (focus kernel_rfl); (focus kernel_rfl); (focus kernel_rfl); (focus kernel_rfl); (focus exact fun _ _ _ h => h); (focus (refine Or.inl ⟨by rfl, ?_⟩; intro W hW; (try dsimp only at hW); go_simp; try with_reducible rfl)); (focus exact HC); (try simp only [Act.put, List.setIfInBounds_toArray, List.set_cons_zero, List.set_cons_succ]))
        generalize w9.drewN 1 = wA at a0 a1 a2 a3 a4 a5 a6 c0 c1 c2 c3 c4 c5 c6 hrowA hxA hqA hVA hCA hDA ⊢
        have HROWA := Lib.hid hrowA
        have HXA := Lib.hid hxA
        have HQA := Lib.hid hqA
        have HVA := Lib.hid hVA
        clear hVA
        have HCA := Lib.hid hCA
        clear hCA
        have HDA := Lib.hid hDA
        clear hDA
        clear hrowA hxA hqA
        refine wpAnyK_rgC (us := [7, 11]) (fun _ _ => True)
          (fun i v W => match i with
            | 7 => v = .agg #[.float .f64 (floatOfInt .f64 (yk.d : Int)), .int .i64 yk.r.x0, .int .i64 yk.r.y0, .int .i64 yk.r.x1, .int .i64 yk.r.y1, .int .i64 yk.v, .pointer yk.p]
            | 11 => v = .agg #[.float .f64 (floatOfInt .f64 (yr.d : Int)), .int .i64 yr.r.x0, .int .i64 yr.r.y0, .int .i64 yr.r.x1, .int .i64 yr.r.y1, .int .i64 yr.v, .pointer yr.p]
            | _ => True)
          (fun _ => Mix.Ex) (fun W => wA = W) (by kernel_rfl) 4 (fun _ _ => trivial) rfl (fun _ _ => trivial) (fun _ _ _ _ _ _ _ _ _ => trivial) ?_ ?_ ?_
        · intro i hi j' hj' hij v W W' hv hg
          simp only [List.mem_cons, List.not_mem_nil, or_false] at hi
          rcases hi with rfl | rfl
          · exact hv
          · exact hv
        · intro i hi
          simp only [List.mem_cons, List.not_mem_nil, or_false] at hi
          rcases hi with rfl | rfl
          · intro o ho v0 W hI hb hd K hK
            simp only [List.getElem?_toArray, List.getElem?_cons_zero, List.getElem?_cons_succ, Option.some.injEq] at ho
            subst ho
            simp only [putU, dstOf, List.getElem?_toArray, List.getElem?_cons_zero, List.getElem?_cons_succ, Option.bind_some, Act.put, List.setIfInBounds_toArray, List.set_cons_zero, List.set_cons_succ] at hK ⊢
            subst hI
            clear hd hb
            go_simp
            exact hK _ _ rfl (Mix.Ex.refl _) rfl
          · intro o ho v0 W hI hb hd K hK
            simp only [List.getElem?_toArray, List.getElem?_cons_zero, List.getElem?_cons_succ, Option.some.injEq] at ho
            subst ho
            simp only [putU, dstOf, List.getElem?_toArray, List.getElem?_cons_zero, List.getElem?_cons_succ, Option.bind_some, Act.put, List.setIfInBounds_toArray, List.set_cons_zero, List.set_cons_succ] at hK ⊢
            subst hI
            clear hd hb
            go_simp
            exact hK _ _ rfl (Mix.Ex.refl _) rfl
        intro v0 W hI hA
        subst hI
        have e9 : v0 7 = _ := hA 7 (by simp)
        have e13 : v0 11 = _ := hA 11 (by simp)
        clear hA
        simp only [putU, dstOf, List.getElem?_toArray, List.getElem?_cons_zero, List.getElem?_cons_succ, Option.bind_some, Act.put, List.setIfInBounds_toArray, List.set_cons_zero, List.set_cons_succ]
        rw [e9, e13]
        clear e9 e13 v0
        clear a0 a1 a2 a3 a4 a5 a6
        (refine wpAnyK_one (i := 12) (o := ?_) ?_ ?_ ?_ (fun K hK => ?_); rotate_left 1; (focus kernel_rfl); (focus (simp only [List.getElem?_toArray, List.getElem?_cons_zero, List.getElem?_cons_succ]; rfl)); (focus rfl))
        go_simp
        refine hK _ _ (fun _ => trivial) ?_
        clear hK K
        have f0 := Row.frz HROWA.out (r * 7)
        have f1 := Row.frz HROWA.out (r * 7 + 1)
        have f2 := Row.frz HROWA.out (r * 7 + 2)
        have f3 := Row.frz HROWA.out (r * 7 + 3)
        have f4 := Row.frz HROWA.out (r * 7 + 4)
        have f5 := Row.frz HROWA.out (r * 7 + 5)
        have f6 := Row.frz HROWA.out (r * 7 + 6)
        obtain ⟨r1, x1, q1, o1⟩ := qn_write HROWA.out HML.out (k := r) (by omega) yk HXA.out h0 HQA.out
        have R1 := Lib.hid r1
        have X1 := Lib.hid x1
        have Q1 := Lib.hid q1
        have V1 := Lib.hid ((o1 _ HBG.out).trans HVA.out)
        have C1 := Lib.hid ((o1 _ HBG2.out).trans HCA.out)
        have D1 := Lib.hid ((o1 _ HBG5.out).trans HDA.out)
        clear r1 x1 q1 o1
        (refine wpAnyK_one (i := 13) (o := ?_) ?_ ?_ ?_ (fun K hK => ?_); rotate_left 1; (focus kernel_rfl); (focus (simp only [List.getElem?_toArray, List.getElem?_cons_zero, List.getElem?_cons_succ]; rfl)); (focus rfl))
        go_simp
        generalize (((((((wA.setCell ⟨g, r * 7, none⟩ (.float .f64 (floatOfInt .f64 (yk.d : Int)))).setCell ⟨g, r * 7 + 1, none⟩ (.int .i64 yk.r.x0)).setCell ⟨g, r * 7 + 2, none⟩ (.int .i64 yk.r.y0)).setCell ⟨g, r * 7 + 3, none⟩ (.int .i64 yk.r.x1)).setCell ⟨g, r * 7 + 4, none⟩ (.int .i64 yk.r.y1)).setCell ⟨g, r * 7 + 5, none⟩ (.int .i64 yk.v)).setCell ⟨g, r * 7 + 6, none⟩ (.pointer yk.p)) = wB at R1 X1 Q1 V1 C1 D1 hK ⊢
        refine hK _ _ (fun _ => trivial) ?_
        clear hK K c0 c1 c2 c3 c4 c5 c6 f0 f1 f2 f3 f4 f5 f6
        (refine wpAnyK_one (i := 14) (o := ?_) ?_ ?_ ?_ (fun K hK => ?_); rotate_left 1; (focus kernel_rfl); (focus (simp only [List.getElem?_toArray, List.getElem?_cons_zero, List.getElem?_cons_succ]; rfl)); (focus rfl))
        go_simp
        refine hK _ _ (fun _ => trivial) ?_
        clear hK K
        have hyB : (M.set r yk)[k]? = some yk := by rw [List.getElem?_set_ne (by omega)]; exact HY.out
        obtain ⟨a0, a1, a2, a3, a4, a5, a6⟩ := row_cells7 R1.out hyB
        have f0 := Row.frz R1.out (k * 7)
        have f1 := Row.frz R1.out (k * 7 + 1)
        have f2 := Row.frz R1.out (k * 7 + 2)
        have f3 := Row.frz R1.out (k * 7 + 3)
        have f4 := Row.frz R1.out (k * 7 + 4)
        have f5 := Row.frz R1.out (k * 7 + 5)
        have f6 := Row.frz R1.out (k * 7 + 6)
        obtain ⟨r1, x1, q1, o1⟩ := qn_write R1.out (by rw [List.length_set]; exact HML.out) (k := k) (by omega) yr X1.out h0 Q1.out
        have R2 := Lib.hid r1
        have X2 := Lib.hid x1
        have Q2 := Lib.hid q1
        have V2 := Lib.hid ((o1 _ HBG.out).trans V1.out)
        have C2 := Lib.hid ((o1 _ HBG2.out).trans C1.out)
        have D2 := Lib.hid ((o1 _ HBG5.out).trans D1.out)
        clear r1 x1 q1 o1
        (refine wpAnyK_one (i := 15) (o := ?_) ?_ ?_ ?_ (fun K hK => ?_); rotate_left 1; (focus kernel_rfl); (focus (simp only [List.getElem?_toArray, List.getElem?_cons_zero, List.getElem?_cons_succ]; rfl)); (focus rfl))
        go_simp
        generalize (((((((wB.setCell ⟨g, k * 7, none⟩ (.float .f64 (floatOfInt .f64 (yr.d : Int)))).setCell ⟨g, k * 7 + 1, none⟩ (.int .i64 yr.r.x0)).setCell ⟨g, k * 7 + 2, none⟩ (.int .i64 yr.r.y0)).setCell ⟨g, k * 7 + 3, none⟩ (.int .i64 yr.r.x1)).setCell ⟨g, k * 7 + 4, none⟩ (.int .i64 yr.r.y1)).setCell ⟨g, k * 7 + 5, none⟩ (.int .i64 yr.v)).setCell ⟨g, k * 7 + 6, none⟩ (.pointer yr.p)) = wC at R2 X2 Q2 V2 C2 D2 hK ⊢
        refine hK _ _ (fun _ => trivial) ?_
        clear hK K a0 a1 a2 a3 a4 a5 a6 f0 f1 f2 f3 f4 f5 f6 hyB
        refine wpAnyK_done (by kernel_rfl) ?_ _
        have hsw : HeapDn (kyL QN.d ((M.set r yk).set k yr)) m r := by
          rw [sw_ky QN.d Hyr.out Hyk.out]
          refine HDN.out.step (by omega) (by omega) (by omega) (by rw [Kyr.out, Kyk.out]; omega) fun t t0 tn tp => ?_
          rcases (by omega : t = l ∨ t = r) with rfl | rfl
          · rw [Kyr.out, Kyl.out]; omega
          · exact Nat.le_refl _
        have HSW := Lib.hid hsw
        have HPS := Lib.hid (sw_perm Hyr.out Hyk.out)
        clear hsw
        go_wp2_with fail
        go_roundw
        case measure => simp [intOf]; omega
        case rel => exact ⟨r, by omega, by go_num, ⟨_, R2.out, HPS.out.trans HPM.out, HSW.out, by omega⟩, V2.out, C2.out, D2.out, X2.out, Q2.out⟩
      · rw [decide_eq_false hre] at gr
        (refine Mix.wp_region_dr (by kernel_rfl) (by kernel_rfl) ?_; (repeat (go_big_quiet_step (fail))); refine wpQuiet_nil ?_; intro nq)
        have HROW9 := Lib.hid (HROW.out.ex ((Mix.Ex.refl wr).drewN nq))
        have HX9 := Lib.hid (HX.out.drewN nq)
        have HQ9 := Lib.hid (HQ.out.ex ((Mix.Ex.refl wr).drewN nq))
        have HV9 : Hid ((wr.drewN nq).heap[Bq]? = _) := Lib.hid HV.out
        have HO29 : Hid ((wr.drewN nq).heap[B2]? = _) := Lib.hid HO2.out
        have HO59 : Hid ((wr.drewN nq).heap[B5]? = _) := Lib.hid HO5.out
        clear HROW HX HQ HV HO2 HO5
        generalize wr.drewN nq = wr at HROW9 HX9 HQ9 HV9 HO29 HO59 ⊢
        have HROW := HROW9
        have HX := HX9
        have HQ := HQ9
        have HV := HV9
        have HO2 := HO29
        have HO5 := HO59
        clear HROW9 HX9 HQ9 HV9 HO29 HO59
        clear cs cr gr g2
        have hsk : ((l : Int) == k) = false := by simp; omega
        go_upto_region 17 with (fail)
        clear hsk
        have HROW9 := HROW
        have HX9 := HX
        have HQ9 := HQ
        have HV9 := HV
        have HC9 := HO2
        have HD9 := HO5
        have HY := Hyk
        have HZ := Hyl
        clear HROW HX HQ HV HO2 HO5
        have hjk1 : (l : Int) < m := by omega
        have hjk2 : (k : Int) < m := by omega
        generalize hw9 : wr = w9 at HROW9 HX9 HQ9 HV9 HC9 HD9 ⊢
        clear hw9
        obtain ⟨a0, a1, a2, a3, a4, a5, a6⟩ := row_cells7 HROW9.out HY.out
        obtain ⟨c0, c1, c2, c3, c4, c5, c6⟩ := row_cells7 HROW9.out HZ.out
        have a0 : (w9.drewN 1).cell? _ = _ := a0
        have a1 : (w9.drewN 1).cell? _ = _ := a1
        have a2 : (w9.drewN 1).cell? _ = _ := a2
        have a3 : (w9.drewN 1).cell? _ = _ := a3
        have a4 : (w9.drewN 1).cell? _ = _ := a4
        have a5 : (w9.drewN 1).cell? _ = _ := a5
        have a6 : (w9.drewN 1).cell? _ = _ := a6
        have c0 : (w9.drewN 1).cell? _ = _ := c0
        have c1 : (w9.drewN 1).cell? _ = _ := c1
        have c2 : (w9.drewN 1).cell? _ = _ := c2
        have c3 : (w9.drewN 1).cell? _ = _ := c3
        have c4 : (w9.drewN 1).cell? _ = _ := c4
        have c5 : (w9.drewN 1).cell? _ = _ := c5
        have c6 : (w9.drewN 1).cell? _ = _ := c6
        have hrowA := HROW9.out.ex ((Mix.Ex.refl w9).drewN 1)
        have hxA := HX9.out.drewN 1
        have hqA := HQ9.out.ex ((Mix.Ex.refl w9).drewN 1)
        have hVA : (w9.drewN 1).heap[_]? = _ := HV9.out
        have hCA : (w9.drewN 1).heap[_]? = _ := HC9.out
        have hDA : (w9.drewN 1).heap[_]? = _ := HD9.out
        have HC : True := trivial
        refine wp_region_K (fun _ => True) 15 (by kernel_rfl) ?_
        change wpAnyK _ _ _ _ _ 16 (Array.replicate 16 false) _ _
        (refine wpAnyK_take (i := 0) (oi := ?_) (v := ?_) ?_ ?_ ?_ ?_ ?_ ?_ ?_ ?_ ?_; rotate_left 2; (focus (simp only [List.getElem?_toArray, List.getElem?_cons_zero, List.getElem?_cons_succ]; rfl)); (focus kernel_rfl); (focus kernel_rfl); (focus kernel_rfl); (focus kernel_rfl); (focus exact fun _ _ _ h => h); (focus (refine Or.inl ⟨by rfl, ?_⟩; intro W hW; (try dsimp only at hW); go_simp; try with_reducible rfl)); (focus exact HC); (try simp only [Act.put, List.setIfInBounds_toArray, List.set_cons_zero, List.set_cons_succ]))
        (refine wpAnyK_take (i := 1) (oi := ?_) (v := ?_) ?_ ?_ ?_ ?_ ?_ ?_ ?_ ?_ ?_; rotate_left 2; (focus (simp only [List.getElem?_toArray, List.getElem?_cons_zero, List.getElem?_cons_succ]; rfl)); (focus kernel_rfl); (focus kernel_rfl); (focus kernel_rfl); (focus kernel_rfl); (focus exact fun _ _ _ h => h); (focus (refine Or.inl ⟨by rfl, ?_⟩; intro W hW; (try dsimp only at hW); go_simp; try with_reducible rfl)); (focus exact HC); (try simp only [Act.put, List.setIfInBounds_toArray, List.set_cons_zero, List.set_cons_succ]))
        (refine wpAnyK_take (i := 2) (oi := ?_) (v := ?_) ?_ ?_ ?_ ?_ ?_ ?_ ?_ ?_ ?_; rotate_left 2; (focus (simp only [List.getElem?_toArray, List.getElem?_cons_zero, List.getElem?_cons_succ]; rfl)); (focus kernel_rfl); (focus kernel_rfl); (focus kernel_rfl); (focus kernel_rfl); (focus exact fun _ _ _ h => h); (focus (refine Or.inl ⟨by rfl, ?_⟩; intro W hW; (try dsimp only at hW); go_simp; try with_reducible rfl)); (focus exact HC); (try simp only [Act.put, List.setIfInBounds_toArray, List.set_cons_zero, List.set_cons_succ]))
        (refine wpAnyK_take (i := 3) (oi := ?_) (v := ?_) ?_ ?_ ?_ ?_ ?_ ?_ ?_ ?_ ?_; rotate_left 2; (focus (simp only [List.getElem?_toArray, List.getElem?_cons_zero, List.getElem?_cons_succ]; rfl)); (focus kernel_rfl); (focus kernel_rfl); (focus kernel_rfl); (focus kernel_rfl); (focus exact fun _ _ _ h => h); (focus (refine Or.inl ⟨by rfl, ?_⟩; intro W hW; (try dsimp only at hW); go_simp; try with_reducible rfl)); (focus exact HC); (try simp only [Act.put, List.setIfInBounds_toArray, List.set_cons_zero, List.set_cons_succ]))
        (refine wpAnyK_take (i := 4) (oi := ?_) (v := ?_) ?_ ?_ ?_ ?_ ?_ ?_ ?_ ?_ ?_; rotate_left 2; (focus (simp only [List.getElem?_toArray, List.getElem?_cons_zero, List.getElem?_cons_succ]; rfl)); (focus kernel_rfl); (focus kernel_rfl); (focus kernel_rfl); (focus kernel_rfl); (focus exact fun _ _ _ h => h); (focus (refine Or.inl ⟨by rfl, ?_⟩; intro W hW; (try dsimp only at hW); go_simp; try with_reducible rfl)); (focus exact HC); (try simp only [Act.put, List.setIfInBounds_toArray, List.set_cons_zero, List.set_cons_succ]))
        (refine wpAnyK_take (i := 5) (oi := ?_) (v := ?_) ?_ ?_ ?_ ?_ ?_ ?_ ?_ ?_ ?_; rotate_left 2; (focus (simp only [List.getElem?_toArray, List.getElem?_cons_zero, List.getElem?_cons_succ]; rfl)); (focus kernel_rfl); (focus kernel_rfl); (focus kernel_rfl); (focus kernel_rfl); (focus exact fun _ _ _ h => h); (focus (refine Or.inl ⟨by rfl, ?_⟩; intro W hW; (try dsimp only at hW); go_simp; try with_reducible rfl)); (focus exact HC); (try simp only [Act.put, List.setIfInBounds_toArray, List.set_cons_zero, List.set_cons_succ]))
        (refine wpAnyK_take (i := 6) (oi := ?_) (v := ?_) ?_ ?_ ?_ ?_ ?_ ?_ ?_ ?_ ?_; rotate_left 2; (focus (simp only [List.getElem?_toArray, List.getElem?_cons_zero, List.getElem?_cons_succ]; rfl)); (focus kernel_rfl); (focus kernel_rfl); (focus kernel_rfl); (focus kernel_rfl); (focus exact fun _ _ _ h => h); (focus (refine Or.inl ⟨by rfl, ?_⟩; intro W hW; (try dsimp only at hW); go_simp; try with_reducible rfl)); (focus exact HC); (try simp only [Act.put, List.setIfInBounds_toArray, List.set_cons_zero, List.set_cons_succ]))
        (refine wpAnyK_take (i := 8) (oi := ?_) (v := ?_) ?_ ?_ ?_ ?_ ?_ ?_ ?_ ?_ ?_; rotate_left 2; (focus (simp only [List.getElem?_toArray, List.getElem?_cons_zero, List.getElem?_cons_succ]; rfl)); (focus kernel_rfl); (focus kernel_rfl); (focus kernel_rfl); (focus kernel_rfl); (focus exact fun _ _ _ h => h); (focus (refine Or.inl ⟨by rfl, ?_⟩; intro W hW; (try dsimp only at hW); go_simp; try with_reducible rfl)); (focus exact HC); (try simp only [Act.put, List.setIfInBounds_toArray, List.set_cons_zero, List.set_cons_succ]))
        (refine wpAnyK_take (i := 9) (oi := ?_) (v := ?_) ?_ ?_ ?_ ?_ ?_ ?_ ?_ ?_ ?_; rotate_left 2; (focus (simp only [List.getElem?_toArray, List.getElem?_cons_zero, List.getElem?_cons_succ]; rfl)); (focus kernel_rfl); (focus kernel_rfl); (focus kernel_rfl); (focus kernel_rfl); (focus exact fun _ _ _ h => h); (focus (refine Or.inl ⟨by rfl, ?_⟩; intro W hW; (try dsimp only at hW); go_simp; try with_reducible rfl)); (focus exact HC); (try simp only [Act.put, List.setIfInBounds_toArray, List.set_cons_zero, List.set_cons_succ]))
        (refine wpAnyK_take (i := 10) (oi := ?_) (v := ?_) ?_ ?_ ?_ ?_ ?_ ?_ ?_ ?_ ?_; rotate_left 2; (focus (simp only [List.getElem?_toArray, List.getElem?_cons_zero, List.getElem?_cons_succ]; rfl)); (focus kernel_rfl); (focus kernel_rfl); (focus kernel_rfl); (focus kernel_rfl); (focus exact fun _ _ _ h => h); (focus (refine Or.inl ⟨by rfl, ?_⟩; intro W hW; (try dsimp only at hW); go_simp; try with_reducible rfl)); (focus exact HC); (try simp only [Act.put, List.setIfInBounds_toArray, List.set_cons_zero, List.set_cons_succ]))
        generalize w9.drewN 1 = wA at a0 a1 a2 a3 a4 a5 a6 c0 c1 c2 c3 c4 c5 c6 hrowA hxA hqA hVA hCA hDA ⊢
        have HROWA := Lib.hid hrowA
        have HXA := Lib.hid hxA
        have HQA := Lib.hid hqA
        have HVA := Lib.hid hVA
        clear hVA
        have HCA := Lib.hid hCA
        clear hCA
        have HDA := Lib.hid hDA
        clear hDA
        clear hrowA hxA hqA
        refine wpAnyK_rgC (us := [7, 11]) (fun _ _ => True)
          (fun i v W => match i with
            | 7 => v = .agg #[.float .f64 (floatOfInt .f64 (yk.d : Int)), .int .i64 yk.r.x0, .int .i64 yk.r.y0, .int .i64 yk.r.x1, .int .i64 yk.r.y1, .int .i64 yk.v, .pointer yk.p]
            | 11 => v = .agg #[.float .f64 (floatOfInt .f64 (yl.d : Int)), .int .i64 yl.r.x0, .int .i64 yl.r.y0, .int .i64 yl.r.x1, .int .i64 yl.r.y1, .int .i64 yl.v, .pointer yl.p]
            | _ => True)
          (fun _ => Mix.Ex) (fun W => wA = W) (by kernel_rfl) 4 (fun _ _ => trivial) rfl (fun _ _ => trivial) (fun _ _ _ _ _ _ _ _ _ => trivial) ?_ ?_ ?_
        · intro i hi j' hj' hij v W W' hv hg
          simp only [List.mem_cons, List.not_mem_nil, or_false] at hi
          rcases hi with rfl | rfl
          · exact hv
          · exact hv
        · intro i hi
          simp only [List.mem_cons, List.not_mem_nil, or_false] at hi
          rcases hi with rfl | rfl
          · intro o ho v0 W hI hb hd K hK
            simp only [List.getElem?_toArray, List.getElem?_cons_zero, List.getElem?_cons_succ, Option.some.injEq] at ho
            subst ho
            simp only [putU, dstOf, List.getElem?_toArray, List.getElem?_cons_zero, List.getElem?_cons_succ, Option.bind_some, Act.put, List.setIfInBounds_toArray, List.set_cons_zero, List.set_cons_succ] at hK ⊢
            subst hI
            clear hd hb
            go_simp
            exact hK _ _ rfl (Mix.Ex.refl _) rfl
          · intro o ho v0 W hI hb hd K hK
            simp only [List.getElem?_toArray, List.getElem?_cons_zero, List.getElem?_cons_succ, Option.some.injEq] at ho
            subst ho
            simp only [putU, dstOf, List.getElem?_toArray, List.getElem?_cons_zero, List.getElem?_cons_succ, Option.bind_some, Act.put, List.setIfInBounds_toArray, List.set_cons_zero, List.set_cons_succ] at hK ⊢
            subst hI
            clear hd hb
            go_simp
            exact hK _ _ rfl (Mix.Ex.refl _) rfl
        intro v0 W hI hA
        subst hI
        have e9 : v0 7 = _ := hA 7 (by simp)
        have e13 : v0 11 = _ := hA 11 (by simp)
        clear hA
        simp only [putU, dstOf, List.getElem?_toArray, List.getElem?_cons_zero, List.getElem?_cons_succ, Option.bind_some, Act.put, List.setIfInBounds_toArray, List.set_cons_zero, List.set_cons_succ]
        rw [e9, e13]
        clear e9 e13 v0
        clear a0 a1 a2 a3 a4 a5 a6
        (refine wpAnyK_one (i := 12) (o := ?_) ?_ ?_ ?_ (fun K hK => ?_); rotate_left 1; (focus kernel_rfl); (focus (simp only [List.getElem?_toArray, List.getElem?_cons_zero, List.getElem?_cons_succ]; rfl)); (focus rfl))
        go_simp
        refine hK _ _ (fun _ => trivial) ?_
        clear hK K
        have f0 := Row.frz HROWA.out (l * 7)
        have f1 := Row.frz HROWA.out (l * 7 + 1)
        have f2 := Row.frz HROWA.out (l * 7 + 2)
        have f3 := Row.frz HROWA.out (l * 7 + 3)
        have f4 := Row.frz HROWA.out (l * 7 + 4)
        have f5 := Row.frz HROWA.out (l * 7 + 5)
        have f6 := Row.frz HROWA.out (l * 7 + 6)
        obtain ⟨r1, x1, q1, o1⟩ := qn_write HROWA.out HML.out (k := l) (by omega) yk HXA.out h0 HQA.out
        have R1 := Lib.hid r1
        have X1 := Lib.hid x1
        have Q1 := Lib.hid q1
        have V1 := Lib.hid ((o1 _ HBG.out).trans HVA.out)
        have C1 := Lib.hid ((o1 _ HBG2.out).trans HCA.out)
        have D1 := Lib.hid ((o1 _ HBG5.out).trans HDA.out)
        clear r1 x1 q1 o1
        (refine wpAnyK_one (i := 13) (o := ?_) ?_ ?_ ?_ (fun K hK => ?_); rotate_left 1; (focus kernel_rfl); (focus (simp only [List.getElem?_toArray, List.getElem?_cons_zero, List.getElem?_cons_succ]; rfl)); (focus rfl))
        go_simp
        generalize (((((((wA.setCell ⟨g, l * 7, none⟩ (.float .f64 (floatOfInt .f64 (yk.d : Int)))).setCell ⟨g, l * 7 + 1, none⟩ (.int .i64 yk.r.x0)).setCell ⟨g, l * 7 + 2, none⟩ (.int .i64 yk.r.y0)).setCell ⟨g, l * 7 + 3, none⟩ (.int .i64 yk.r.x1)).setCell ⟨g, l * 7 + 4, none⟩ (.int .i64 yk.r.y1)).setCell ⟨g, l * 7 + 5, none⟩ (.int .i64 yk.v)).setCell ⟨g, l * 7 + 6, none⟩ (.pointer yk.p)) = wB at R1 X1 Q1 V1 C1 D1 hK ⊢
        refine hK _ _ (fun _ => trivial) ?_
        clear hK K c0 c1 c2 c3 c4 c5 c6 f0 f1 f2 f3 f4 f5 f6
        (refine wpAnyK_one (i := 14) (o := ?_) ?_ ?_ ?_ (fun K hK => ?_); rotate_left 1; (focus kernel_rfl); (focus (simp only [List.getElem?_toArray, List.getElem?_cons_zero, List.getElem?_cons_succ]; rfl)); (focus rfl))
        go_simp
        refine hK _ _ (fun _ => trivial) ?_
        clear hK K
        have hyB : (M.set l yk)[k]? = some yk := by rw [List.getElem?_set_ne (by omega)]; exact HY.out
        obtain ⟨a0, a1, a2, a3, a4, a5, a6⟩ := row_cells7 R1.out hyB
        have f0 := Row.frz R1.out (k * 7)
        have f1 := Row.frz R1.out (k * 7 + 1)
        have f2 := Row.frz R1.out (k * 7 + 2)
        have f3 := Row.frz R1.out (k * 7 + 3)
        have f4 := Row.frz R1.out (k * 7 + 4)
        have f5 := Row.frz R1.out (k * 7 + 5)
        have f6 := Row.frz R1.out (k * 7 + 6)
        obtain ⟨r1, x1, q1, o1⟩ := qn_write R1.out (by rw [List.length_set]; exact HML.out) (k := k) (by omega) yl X1.out h0 Q1.out
        have R2 := Lib.hid r1
        have X2 := Lib.hid x1
        have Q2 := Lib.hid q1
        have V2 := Lib.hid ((o1 _ HBG.out).trans V1.out)
        have C2 := Lib.hid ((o1 _ HBG2.out).trans C1.out)
        have D2 := Lib.hid ((o1 _ HBG5.out).trans D1.out)
        clear r1 x1 q1 o1
        (refine wpAnyK_one (i := 15) (o := ?_) ?_ ?_ ?_ (fun K hK => ?_); rotate_left 1; (focus kernel_rfl); (focus (simp only [List.getElem?_toArray, List.getElem?_cons_zero, List.getElem?_cons_succ]; rfl)); (focus rfl))
        go_simp
        generalize (((((((wB.setCell ⟨g, k * 7, none⟩ (.float .f64 (floatOfInt .f64 (yl.d : Int)))).setCell ⟨g, k * 7 + 1, none⟩ (.int .i64 yl.r.x0)).setCell ⟨g, k * 7 + 2, none⟩ (.int .i64 yl.r.y0)).setCell ⟨g, k * 7 + 3, none⟩ (.int .i64 yl.r.x1)).setCell ⟨g, k * 7 + 4, none⟩ (.int .i64 yl.r.y1)).setCell ⟨g, k * 7 + 5, none⟩ (.int .i64 yl.v)).setCell ⟨g, k * 7 + 6, none⟩ (.pointer yl.p)) = wC at R2 X2 Q2 V2 C2 D2 hK ⊢
        refine hK _ _ (fun _ => trivial) ?_
        clear hK K a0 a1 a2 a3 a4 a5 a6 f0 f1 f2 f3 f4 f5 f6 hyB
        refine wpAnyK_done (by kernel_rfl) ?_ _
        have hsw : HeapDn (kyL QN.d ((M.set l yk).set k yl)) m l := by
          rw [sw_ky QN.d Hyl.out Hyk.out]
          refine HDN.out.step (by omega) (by omega) (by omega) (by rw [Kyl.out, Kyk.out]; omega) fun t t0 tn tp => ?_
          rcases (by omega : t = l ∨ t = r) with rfl | rfl
          · exact Nat.le_refl _
          · rw [Kyr.out, Kyl.out]; omega
        have HSW := Lib.hid hsw
        have HPS := Lib.hid (sw_perm Hyl.out Hyk.out)
        clear hsw
        go_wp2_with fail
        go_roundw
        case measure => simp [intOf]; omega
        case rel => exact ⟨l, by omega, by go_num, ⟨_, R2.out, HPS.out.trans HPM.out, HSW.out, by omega⟩, V2.out, C2.out, D2.out, X2.out, Q2.out⟩
    · rw [decide_eq_false hle] at gl
      (refine Mix.wp_region_dr (by kernel_rfl) (by kernel_rfl) ?_; (repeat (go_big_quiet_step (fail))); refine wpQuiet_nil ?_; intro nq)
      have HROW9 := Lib.hid (HROW.out.ex ((Mix.Ex.refl wr).drewN nq))
      have HX9 := Lib.hid (HX.out.drewN nq)
      have HQ9 := Lib.hid (HQ.out.ex ((Mix.Ex.refl wr).drewN nq))
      have HV9 : Hid ((wr.drewN nq).heap[Bq]? = _) := Lib.hid HV.out
      have HO29 : Hid ((wr.drewN nq).heap[B2]? = _) := Lib.hid HO2.out
      have HO59 : Hid ((wr.drewN nq).heap[B5]? = _) := Lib.hid HO5.out
      clear HROW HX HQ HV HO2 HO5
      generalize wr.drewN nq = wr at HROW9 HX9 HQ9 HV9 HO29 HO59 ⊢
      have HROW := HROW9
      have HX := HX9
      have HQ := HQ9
      have HV := HV9
      have HO2 := HO29
      have HO5 := HO59
      clear HROW9 HX9 HQ9 HV9 HO29 HO59
      clear ck cl gl g1
      go_upto_region 14 with (fail)
      by_cases hrm : r < m
      case neg =>
        have g2 : decide ((r : Int) < (m : Int)) = false := decide_eq_false (by omega)
        (refine Mix.wp_region_dr (by kernel_rfl) (by kernel_rfl) ?_; (repeat (go_big_quiet_step (fail))); refine wpQuiet_nil ?_; intro nq)
        have HROW9 := Lib.hid (HROW.out.ex ((Mix.Ex.refl wr).drewN nq))
        have HX9 := Lib.hid (HX.out.drewN nq)
        have HQ9 := Lib.hid (HQ.out.ex ((Mix.Ex.refl wr).drewN nq))
        have HV9 : Hid ((wr.drewN nq).heap[Bq]? = _) := Lib.hid HV.out
        have HO29 : Hid ((wr.drewN nq).heap[B2]? = _) := Lib.hid HO2.out
        have HO59 : Hid ((wr.drewN nq).heap[B5]? = _) := Lib.hid HO5.out
        clear HROW HX HQ HV HO2 HO5
        generalize wr.drewN nq = wr at HROW9 HX9 HQ9 HV9 HO29 HO59 ⊢
        have HROW := HROW9
        have HX := HX9
        have HQ := HQ9
        have HV := HV9
        have HO2 := HO29
        have HO5 := HO59
        clear HROW9 HX9 HQ9 HV9 HO29 HO59
        have hkk : ((k : Int) == k) = true := by simp
        have hH : IsHeap QN.d M := by
                  unfold IsHeap
                  rw [HML.out]
                  refine HDN.out.done fun t t0 tn tp => ?_
                  rcases (by omega : t = l ∨ t = r) with rfl | rfl
                  · rw [Kyk.out, Kyl.out]; omega
                  · omega
        have HH := Lib.hid hH
        clear hH
        have a0 := cellOf HO5.out 0
        have b0 := cellOf HO2.out 0
        have f0 := frzOf HO2.out 0
        have a1 := cellOf HO5.out 1
        have b1 := cellOf HO2.out 1
        have f1 := frzOf HO2.out 1
        have a2 := cellOf HO5.out 2
        have b2 := cellOf HO2.out 2
        have f2 := frzOf HO2.out 2
        have a3 := cellOf HO5.out 3
        have b3 := cellOf HO2.out 3
        have f3 := frzOf HO2.out 3
        have a4 := cellOf HO5.out 4
        have b4 := cellOf HO2.out 4
        have f4 := frzOf HO2.out 4
        have a5 := cellOf HO5.out 5
        have b5 := cellOf HO2.out 5
        have f5 := frzOf HO2.out 5
        have a6 := cellOf HO5.out 6
        have b6 := cellOf HO2.out 6
        have f6 := frzOf HO2.out 6
        simp only [List.getElem?_toArray, List.getElem?_cons_zero, List.getElem?_cons_succ] at a0 b0 a1 b1 a2 b2 a3 b3 a4 b4 a5 b5 a6 b6
        have o2 := (setCell_obj (setCell_obj (setCell_obj (setCell_obj (setCell_obj (setCell_obj (setCell_obj HO2.out 0 (.float .f64 (floatOfInt .f64 (x.d : Int)))) 1 (.int .i64 x.r.x0)) 2 (.int .i64 x.r.y0)) 3 (.int .i64 x.r.x1)) 4 (.int .i64 x.r.y1)) 5 (.int .i64 x.v)) 6 (.pointer x.p))
        simp only [List.setIfInBounds_toArray, List.set_cons_zero, List.set_cons_succ] at o2
        have x2 := (((((((HX.out.setCell (p := ⟨B2, 0, none⟩) hwB2 (.float .f64 (floatOfInt .f64 (x.d : Int)))).setCell (p := ⟨B2, 1, none⟩) hwB2 (.int .i64 x.r.x0)).setCell (p := ⟨B2, 2, none⟩) hwB2 (.int .i64 x.r.y0)).setCell (p := ⟨B2, 3, none⟩) hwB2 (.int .i64 x.r.x1)).setCell (p := ⟨B2, 4, none⟩) hwB2 (.int .i64 x.r.y1)).setCell (p := ⟨B2, 5, none⟩) hwB2 (.int .i64 x.v)).setCell (p := ⟨B2, 6, none⟩) hwB2 (.pointer x.p))
        have q2 := (((((((HQ.out.setCell (o := 0) HO2.out (.inr rfl) (.float .f64 (floatOfInt .f64 (x.d : Int)))).setCell (o := 1) (setCell_obj HO2.out 0 (.float .f64 (floatOfInt .f64 (x.d : Int)))) (.inr rfl) (.int .i64 x.r.x0)).setCell (o := 2) (setCell_obj (setCell_obj HO2.out 0 (.float .f64 (floatOfInt .f64 (x.d : Int)))) 1 (.int .i64 x.r.x0)) (.inr rfl) (.int .i64 x.r.y0)).setCell (o := 3) (setCell_obj (setCell_obj (setCell_obj HO2.out 0 (.float .f64 (floatOfInt .f64 (x.d : Int)))) 1 (.int .i64 x.r.x0)) 2 (.int .i64 x.r.y0)) (.inr rfl) (.int .i64 x.r.x1)).setCell (o := 4) (setCell_obj (setCell_obj (setCell_obj (setCell_obj HO2.out 0 (.float .f64 (floatOfInt .f64 (x.d : Int)))) 1 (.int .i64 x.r.x0)) 2 (.int .i64 x.r.y0)) 3 (.int .i64 x.r.x1)) (.inr rfl) (.int .i64 x.r.y1)).setCell (o := 5) (setCell_obj (setCell_obj (setCell_obj (setCell_obj (setCell_obj HO2.out 0 (.float .f64 (floatOfInt .f64 (x.d : Int)))) 1 (.int .i64 x.r.x0)) 2 (.int .i64 x.r.y0)) 3 (.int .i64 x.r.x1)) 4 (.int .i64 x.r.y1)) (.inr rfl) (.int .i64 x.v)).setCell (o := 6) (setCell_obj (setCell_obj (setCell_obj (setCell_obj (setCell_obj (setCell_obj HO2.out 0 (.float .f64 (floatOfInt .f64 (x.d : Int)))) 1 (.int .i64 x.r.x0)) 2 (.int .i64 x.r.y0)) 3 (.int .i64 x.r.x1)) 4 (.int .i64 x.r.y1)) 5 (.int .i64 x.v)) (.inr rfl) (.pointer x.p))
        have v2 : (((((((wr.setCell ⟨B2, 0, none⟩ (.float .f64 (floatOfInt .f64 (x.d : Int)))).setCell ⟨B2, 1, none⟩ (.int .i64 x.r.x0)).setCell ⟨B2, 2, none⟩ (.int .i64 x.r.y0)).setCell ⟨B2, 3, none⟩ (.int .i64 x.r.x1)).setCell ⟨B2, 4, none⟩ (.int .i64 x.r.y1)).setCell ⟨B2, 5, none⟩ (.int .i64 x.v)).setCell ⟨B2, 6, none⟩ (.pointer x.p)).heap[Bq]? = _ := ((setCell_ne 6 hqB2 (.pointer x.p) none).trans ((setCell_ne 5 hqB2 (.int .i64 x.v) none).trans ((setCell_ne 4 hqB2 (.int .i64 x.r.y1) none).trans ((setCell_ne 3 hqB2 (.int .i64 x.r.x1) none).trans ((setCell_ne 2 hqB2 (.int .i64 x.r.y0) none).trans ((setCell_ne 1 hqB2 (.int .i64 x.r.x0) none).trans ((setCell_ne 0 hqB2 (.float .f64 (floatOfInt .f64 (x.d : Int))) none).trans HV.out)))))))
        have r2 : (((((((wr.setCell ⟨B2, 0, none⟩ (.float .f64 (floatOfInt .f64 (x.d : Int)))).setCell ⟨B2, 1, none⟩ (.int .i64 x.r.x0)).setCell ⟨B2, 2, none⟩ (.int .i64 x.r.y0)).setCell ⟨B2, 3, none⟩ (.int .i64 x.r.x1)).setCell ⟨B2, 4, none⟩ (.int .i64 x.r.y1)).setCell ⟨B2, 5, none⟩ (.int .i64 x.v)).setCell ⟨B2, 6, none⟩ (.pointer x.p)).Row base 126 7 qnV (.slice (some ⟨g, 0, none⟩) m cap) M := HROW.out.of_block fun k hk => by
          simp only [Value.ownBlock, Option.some.injEq] at hk
          subst hk
          exact ((setCell_ne 6 hgB2 (.pointer x.p) none).trans ((setCell_ne 5 hgB2 (.int .i64 x.v) none).trans ((setCell_ne 4 hgB2 (.int .i64 x.r.y1) none).trans ((setCell_ne 3 hgB2 (.int .i64 x.r.x1) none).trans ((setCell_ne 2 hgB2 (.int .i64 x.r.y0) none).trans ((setCell_ne 1 hgB2 (.int .i64 x.r.x0) none).trans ((setCell_ne 0 hgB2 (.float .f64 (floatOfInt .f64 (x.d : Int))) none).trans rfl)))))))
        have O2 := Lib.hid o2
        have X2 := Lib.hid x2
        have Q2 := Lib.hid q2
        have V2 := Lib.hid v2
        have R2 := Lib.hid r2
        clear o2 x2 q2 v2 r2
        go_wp2_with fail
        generalize (((((((wr.setCell ⟨B2, 0, none⟩ (.float .f64 (floatOfInt .f64 (x.d : Int)))).setCell ⟨B2, 1, none⟩ (.int .i64 x.r.x0)).setCell ⟨B2, 2, none⟩ (.int .i64 x.r.y0)).setCell ⟨B2, 3, none⟩ (.int .i64 x.r.x1)).setCell ⟨B2, 4, none⟩ (.int .i64 x.r.y1)).setCell ⟨B2, 5, none⟩ (.int .i64 x.v)).setCell ⟨B2, 6, none⟩ (.pointer x.p)) = wz at O2 X2 Q2 V2 R2 ⊢
        clear a0 b0 f0 a1 b1 f1 a2 b2 f2 a3 b3 f3 a4 b4 f4 a5 b5 f5 a6 b6 f6
        have b0 := cellOf O2.out 0
        have b1 := cellOf O2.out 1
        have b2 := cellOf O2.out 2
        have b3 := cellOf O2.out 3
        have b4 := cellOf O2.out 4
        have b5 := cellOf O2.out 5
        have b6 := cellOf O2.out 6
        simp only [List.getElem?_toArray, List.getElem?_cons_zero, List.getElem?_cons_succ] at b0 b1 b2 b3 b4 b5 b6
        refine bodyPost_ret (v := .tuple #[.agg #[.float .f64 (floatOfInt .f64 (x.d : Int)), .int .i64 x.r.x0, .int .i64 x.r.y0, .int .i64 x.r.x1, .int .i64 x.r.y1, .int .i64 x.v, .pointer x.p], .bool true]) (by simp [results, Try.results75, go_sem, b0, b1, b2, b3, b4, b5, b6]) rfl ?_
        exact ⟨x, M, rfl, (HPM.out.cons x).trans HPP.out, fun y hy => HLE.out y (HPM.out.mem_iff.1 hy), HH.out, ⟨lb, _, V2.out, R2.out⟩, X2.out, Q2.out⟩
      obtain ⟨yr, hyr⟩ : ∃ y, M[r]? = some y := ⟨M[r]'(by have := HML.out; omega), List.getElem?_eq_getElem _⟩
      have dyr := HKD.out yr (HPM.out.mem_iff.1 (List.mem_of_getElem? hyr))
      have Kyr := Lib.hid (kyL_get QN.d hyr)
      have Hyr := Lib.hid hyr
      clear hyr
      have g2 : decide ((r : Int) < (m : Int)) = true := decide_eq_true (by omega)
      have hrmi : (r : Int) < m := by omega
      have cs := (row_cells7 HROW.out Hyk.out).1
      have cr := (row_cells7 HROW.out Hyr.out).1
      have gr := fl_le yr.d yk.d dyr dyk
      by_cases hre : yr.d ≤ yk.d
      · rw [decide_eq_true hre] at gr
        (refine Mix.wp_region_dr (by kernel_rfl) (by kernel_rfl) ?_; (repeat (go_big_quiet_step (fail))); refine wpQuiet_nil ?_; intro nq)
        have HROW9 := Lib.hid (HROW.out.ex ((Mix.Ex.refl wr).drewN nq))
        have HX9 := Lib.hid (HX.out.drewN nq)
        have HQ9 := Lib.hid (HQ.out.ex ((Mix.Ex.refl wr).drewN nq))
        have HV9 : Hid ((wr.drewN nq).heap[Bq]? = _) := Lib.hid HV.out
        have HO29 : Hid ((wr.drewN nq).heap[B2]? = _) := Lib.hid HO2.out
        have HO59 : Hid ((wr.drewN nq).heap[B5]? = _) := Lib.hid HO5.out
        clear HROW HX HQ HV HO2 HO5
        generalize wr.drewN nq = wr at HROW9 HX9 HQ9 HV9 HO29 HO59 ⊢
        have HROW := HROW9
        have HX := HX9
        have HQ := HQ9
        have HV := HV9
        have HO2 := HO29
        have HO5 := HO59
        clear HROW9 HX9 HQ9 HV9 HO29 HO59
        clear cs cr gr g2
        have hsk : ((r : Int) == k) = false := by simp; omega
        go_upto_region 17 with (fail)
        clear hsk
        have HROW9 := HROW
        have HX9 := HX
        have HQ9 := HQ
        have HV9 := HV
        have HC9 := HO2
        have HD9 := HO5
        have HY := Hyk
        have HZ := Hyr
        clear HROW HX HQ HV HO2 HO5
        have hjk1 : (r : Int) < m := by omega
        have hjk2 : (k : Int) < m := by omega
        generalize hw9 : wr = w9 at HROW9 HX9 HQ9 HV9 HC9 HD9 ⊢
        clear hw9
        obtain ⟨a0, a1, a2, a3, a4, a5, a6⟩ := row_cells7 HROW9.out HY.out
        obtain ⟨c0, c1, c2, c3, c4, c5, c6⟩ := row_cells7 HROW9.out HZ.out
        have a0 : (w9.drewN 1).cell? _ = _ := a0
        have a1 : (w9.drewN 1).cell? _ = _ := a1
        have a2 : (w9.drewN 1).cell? _ = _ := a2
        have a3 : (w9.drewN 1).cell? _ = _ := a3
        have a4 : (w9.drewN 1).cell? _ = _ := a4
        have a5 : (w9.drewN 1).cell? _ = _ := a5
        have a6 : (w9.drewN 1).cell? _ = _ := a6
        have c0 : (w9.drewN 1).cell? _ = _ := c0
        have c1 : (w9.drewN 1).cell? _ = _ := c1
        have c2 : (w9.drewN 1).cell? _ = _ := c2
        have c3 : (w9.drewN 1).cell? _ = _ := c3
        have c4 : (w9.drewN 1).cell? _ = _ := c4
        have c5 : (w9.drewN 1).cell? _ = _ := c5
        have c6 : (w9.drewN 1).cell? _ = _ := c6
        have hrowA := HROW9.out.ex ((Mix.Ex.refl w9).drewN 1)
        have hxA := HX9.out.drewN 1
        have hqA := HQ9.out.ex ((Mix.Ex.refl w9).drewN 1)
        have hVA : (w9.drewN 1).heap[_]? = _ := HV9.out
        have hCA : (w9.drewN 1).heap[_]? = _ := HC9.out
        have hDA : (w9.drewN 1).heap[_]? = _ := HD9.out
        have HC : True := trivial
        refine wp_region_K (fun _ => True) 15 (by kernel_rfl) ?_
        change wpAnyK _ _ _ _ _ 16 (Array.replicate 16 false) _ _
        (refine wpAnyK_take (i := 0) (oi := ?_) (v := ?_) ?_ ?_ ?_ ?_ ?_ ?_ ?_ ?_ ?_; rotate_left 2; (focus (simp only [List.getElem?_toArray, List.getElem?_cons_zero, List.getElem?_cons_succ]; rfl)); (focus kernel_rfl); (focus kernel_rfl); (focus kernel_rfl); (focus kernel_rfl); (focus exact fun _ _ _ h => h); (focus (refine Or.inl ⟨by rfl, ?_⟩; intro W hW; (try dsimp only at hW); go_simp; try with_reducible rfl)); (focus exact HC); (try simp only [Act.put, List.setIfInBounds_toArray, List.set_cons_zero, List.set_cons_succ]))
        (refine wpAnyK_take (i := 1) (oi := ?_) (v := ?_) ?_ ?_ ?_ ?_ ?_ ?_ ?_ ?_ ?_; rotate_left 2; (focus (simp only [List.getElem?_toArray, List.getElem?_cons_zero, List.getElem?_cons_succ]; rfl)); (focus kernel_rfl); (focus kernel_rfl); (focus kernel_rfl); (focus kernel_rfl); (focus exact fun _ _ _ h => h); (focus (refine Or.inl ⟨by rfl, ?_⟩; intro W hW; (try dsimp only at hW); go_simp; try with_reducible rfl)); (focus exact HC); (try simp only [Act.put, List.setIfInBounds_toArray, List.set_cons_zero, List.set_cons_succ]))
        (refine wpAnyK_take (i := 2) (oi := ?_) (v := ?_) ?_ ?_ ?_ ?_ ?_ ?_ ?_ ?_ ?_; rotate_left 2; (focus (simp only [List.getElem?_toArray, List.getElem?_cons_zero, List.getElem?_cons_succ]; rfl)); (focus kernel_rfl); (focus kernel_rfl); (focus kernel_rfl); (focus kernel_rfl); (focus exact fun _ _ _ h => h); (focus (refine Or.inl ⟨by rfl, ?_⟩; intro W hW; (try dsimp only at hW); go_simp; try with_reducible rfl)); (focus exact HC); (try simp only [Act.put, List.setIfInBounds_toArray, List.set_cons_zero, List.set_cons_succ]))
        (refine wpAnyK_take (i := 3) (oi := ?_) (v := ?_) ?_ ?_ ?_ ?_ ?_ ?_ ?_ ?_ ?_; rotate_left 2; (focus (simp only [List.getElem?_toArray, List.getElem?_cons_zero, List.getElem?_cons_succ]; rfl)); (focus kernel_rfl); (focus kernel_rfl); (focus kernel_rfl); (focus kernel_rfl); (focus exact fun _ _ _ h => h); (focus (refine Or.inl ⟨by rfl, ?_⟩; intro W hW; (try dsimp only at hW); go_simp; try with_reducible rfl)); (focus exact HC); (try simp only [Act.put, List.setIfInBounds_toArray, List.set_cons_zero, List.set_cons_succ]))
        (refine wpAnyK_take (i := 4) (oi := ?_) (v := ?_) ?_ ?_ ?_ ?_ ?_ ?_ ?_ ?_ ?_; rotate_left 2; (focus (simp only [List.getElem?_toArray, List.getElem?_cons_zero, List.getElem?_cons_succ]; rfl)); (focus kernel_rfl); (focus kernel_rfl); (focus kernel_rfl); (focus kernel_rfl); (focus exact fun _ _ _ h => h); (focus (refine Or.inl ⟨by rfl, ?_⟩; intro W hW; (try dsimp only at hW); go_simp; try with_reducible rfl)); (focus exact HC); (try simp only [Act.put, List.setIfInBounds_toArray, List.set_cons_zero, List.set_cons_succ]))
        (refine wpAnyK_take (i := 5) (oi := ?_) (v := ?_) ?_ ?_ ?_ ?_ ?_ ?_ ?_ ?_ ?_; rotate_left 2; (focus (simp only [List.getElem?_toArray, List.getElem?_cons_zero, List.getElem?_cons_succ]; rfl)); (focus kernel_rfl); (focus kernel_rfl); (focus kernel_rfl); (focus kernel_rfl); (focus exact fun _ _ _ h => h); (focus (refine Or.inl ⟨by rfl, ?_⟩; intro W hW; (try dsimp only at hW); go_simp; try with_reducible rfl)); (focus exact HC); (try simp only [Act.put, List.setIfInBounds_toArray, List.set_cons_zero, List.set_cons_succ]))
        (refine wpAnyK_take (i := 6) (oi := ?_) (v := ?_) ?_ ?_ ?_ ?_ ?_ ?_ ?_ ?_ ?_; rotate_left 2; (focus (simp only [List.getElem?_toArray, List.getElem?_cons_zero, List.getElem?_cons_succ]; rfl)); (focus kernel_rfl); (focus kernel_rfl); (focus kernel_rfl); (focus kernel_rfl); (focus exact fun _ _ _ h => h); (focus (refine Or.inl ⟨by rfl, ?_⟩; intro W hW; (try dsimp only at hW); go_simp; try with_reducible rfl)); (focus exact HC); (try simp only [Act.put, List.setIfInBounds_toArray, List.set_cons_zero, List.set_cons_succ]))
        (refine wpAnyK_take (i := 8) (oi := ?_) (v := ?_) ?_ ?_ ?_ ?_ ?_ ?_ ?_ ?_ ?_; rotate_left 2; (focus (simp only [List.getElem?_toArray, List.getElem?_cons_zero, List.getElem?_cons_succ]; rfl)); (focus kernel_rfl); (focus kernel_rfl); (focus kernel_rfl); (focus kernel_rfl); (focus exact fun _ _ _ h => h); (focus (refine Or.inl ⟨by rfl, ?_⟩; intro W hW; (try dsimp only at hW); go_simp; try with_reducible rfl)); (focus exact HC); (try simp only [Act.put, List.setIfInBounds_toArray, List.set_cons_zero, List.set_cons_succ]))
        (refine wpAnyK_take (i := 9) (oi := ?_) (v := ?_) ?_ ?_ ?_ ?_ ?_ ?_ ?_ ?_ ?_; rotate_left 2; (focus (simp only [List.getElem?_toArray, List.getElem?_cons_zero, List.getElem?_cons_succ]; rfl)); (focus kernel_rfl); (focus kernel_rfl); (focus kernel_rfl); (focus kernel_rfl); (focus exact fun _ _ _ h => h); (focus (refine Or.inl ⟨by rfl, ?_⟩; intro W hW; (try dsimp only at hW); go_simp; try with_reducible rfl)); (focus exact HC); (try simp only [Act.put, List.setIfInBounds_toArray, List.set_cons_zero, List.set_cons_succ]))
        (refine wpAnyK_take (i := 10) (oi := ?_) (v := ?_) ?_ ?_ ?_ ?_ ?_ ?_ ?_ ?_ ?_; rotate_left 2; (focus (simp only [List.getElem?_toArray, List.getElem?_cons_zero, List.getElem?_cons_succ]; rfl)); (focus kernel_rfl); (focus kernel_rfl); (focus kernel_rfl); (focus kernel_rfl); (focus exact fun _ _ _ h => h); (focus (refine Or.inl ⟨by rfl, ?_⟩; intro W hW; (try dsimp only at hW); go_simp; try with_reducible rfl)); (focus exact HC); (try simp only [Act.put, List.setIfInBounds_toArray, List.set_cons_zero, List.set_cons_succ]))
        generalize w9.drewN 1 = wA at a0 a1 a2 a3 a4 a5 a6 c0 c1 c2 c3 c4 c5 c6 hrowA hxA hqA hVA hCA hDA ⊢
        have HROWA := Lib.hid hrowA
        have HXA := Lib.hid hxA
        have HQA := Lib.hid hqA
        have HVA := Lib.hid hVA
        clear hVA
        have HCA := Lib.hid hCA
        clear hCA
        have HDA := Lib.hid hDA
        clear hDA
        clear hrowA hxA hqA
        refine wpAnyK_rgC (us := [7, 11]) (fun _ _ => True)
          (fun i v W => match i with
            | 7 => v = .agg #[.float .f64 (floatOfInt .f64 (yk.d : Int)), .int .i64 yk.r.x0, .int .i64 yk.r.y0, .int .i64 yk.r.x1, .int .i64 yk.r.y1, .int .i64 yk.v, .pointer yk.p]
            | 11 => v = .agg #[.float .f64 (floatOfInt .f64 (yr.d : Int)), .int .i64 yr.r.x0, .int .i64 yr.r.y0, .int .i64 yr.r.x1, .int .i64 yr.r.y1, .int .i64 yr.v, .pointer yr.p]
            | _ => True)
          (fun _ => Mix.Ex) (fun W => wA = W) (by kernel_rfl) 4 (fun _ _ => trivial) rfl (fun _ _ => trivial) (fun _ _ _ _ _ _ _ _ _ => trivial) ?_ ?_ ?_
        · intro i hi j' hj' hij v W W' hv hg
          simp only [List.mem_cons, List.not_mem_nil, or_false] at hi
          rcases hi with rfl | rfl
          · exact hv
          · exact hv
        · intro i hi
          simp only [List.mem_cons, List.not_mem_nil, or_false] at hi
          rcases hi with rfl | rfl
          · intro o ho v0 W hI hb hd K hK
            simp only [List.getElem?_toArray, List.getElem?_cons_zero, List.getElem?_cons_succ, Option.some.injEq] at ho
            subst ho
            simp only [putU, dstOf, List.getElem?_toArray, List.getElem?_cons_zero, List.getElem?_cons_succ, Option.bind_some, Act.put, List.setIfInBounds_toArray, List.set_cons_zero, List.set_cons_succ] at hK ⊢
            subst hI
            clear hd hb
            go_simp
            exact hK _ _ rfl (Mix.Ex.refl _) rfl
          · intro o ho v0 W hI hb hd K hK
            simp only [List.getElem?_toArray, List.getElem?_cons_zero, List.getElem?_cons_succ, Option.some.injEq] at ho
            subst ho
            simp only [putU, dstOf, List.getElem?_toArray, List.getElem?_cons_zero, List.getElem?_cons_succ, Option.bind_some, Act.put, List.setIfInBounds_toArray, List.set_cons_zero, List.set_cons_succ] at hK ⊢
            subst hI
            clear hd hb
            go_simp
            exact hK _ _ rfl (Mix.Ex.refl _) rfl
        intro v0 W hI hA
        subst hI
        have e9 : v0 7 = _ := hA 7 (by simp)
        have e13 : v0 11 = _ := hA 11 (by simp)
        clear hA
        simp only [putU, dstOf, List.getElem?_toArray, List.getElem?_cons_zero, List.getElem?_cons_succ, Option.bind_some, Act.put, List.setIfInBounds_toArray, List.set_cons_zero, List.set_cons_succ]
        rw [e9, e13]
        clear e9 e13 v0
        clear a0 a1 a2 a3 a4 a5 a6
        (refine wpAnyK_one (i := 12) (o := ?_) ?_ ?_ ?_ (fun K hK => ?_); rotate_left 1; (focus kernel_rfl); (focus (simp only [List.getElem?_toArray, List.getElem?_cons_zero, List.getElem?_cons_succ]; rfl)); (focus rfl))
        go_simp
        refine hK _ _ (fun _ => trivial) ?_
        clear hK K
        have f0 := Row.frz HROWA.out (r * 7)
        have f1 := Row.frz HROWA.out (r * 7 + 1)
        have f2 := Row.frz HROWA.out (r * 7 + 2)
        have f3 := Row.frz HROWA.out (r * 7 + 3)
        have f4 := Row.frz HROWA.out (r * 7 + 4)
        have f5 := Row.frz HROWA.out (r * 7 + 5)
        have f6 := Row.frz HROWA.out (r * 7 + 6)
        obtain ⟨r1, x1, q1, o1⟩ := qn_write HROWA.out HML.out (k := r) (by omega) yk HXA.out h0 HQA.out
        have R1 := Lib.hid r1
        have X1 := Lib.hid x1
        have Q1 := Lib.hid q1
        have V1 := Lib.hid ((o1 _ HBG.out).trans HVA.out)
        have C1 := Lib.hid ((o1 _ HBG2.out).trans HCA.out)
        have D1 := Lib.hid ((o1 _ HBG5.out).trans HDA.out)
        clear r1 x1 q1 o1
        (refine wpAnyK_one (i := 13) (o := ?_) ?_ ?_ ?_ (fun K hK => ?_); rotate_left 1; (focus kernel_rfl); (focus (simp only [List.getElem?_toArray, List.getElem?_cons_zero, List.getElem?_cons_succ]; rfl)); (focus rfl))
        go_simp
        generalize (((((((wA.setCell ⟨g, r * 7, none⟩ (.float .f64 (floatOfInt .f64 (yk.d : Int)))).setCell ⟨g, r * 7 + 1, none⟩ (.int .i64 yk.r.x0)).setCell ⟨g, r * 7 + 2, none⟩ (.int .i64 yk.r.y0)).setCell ⟨g, r * 7 + 3, none⟩ (.int .i64 yk.r.x1)).setCell ⟨g, r * 7 + 4, none⟩ (.int .i64 yk.r.y1)).setCell ⟨g, r * 7 + 5, none⟩ (.int .i64 yk.v)).setCell ⟨g, r * 7 + 6, none⟩ (.pointer yk.p)) = wB at R1 X1 Q1 V1 C1 D1 hK ⊢
        refine hK _ _ (fun _ => trivial) ?_
        clear hK K c0 c1 c2 c3 c4 c5 c6 f0 f1 f2 f3 f4 f5 f6
        (refine wpAnyK_one (i := 14) (o := ?_) ?_ ?_ ?_ (fun K hK => ?_); rotate_left 1; (focus kernel_rfl); (focus (simp only [List.getElem?_toArray, List.getElem?_cons_zero, List.getElem?_cons_succ]; rfl)); (focus rfl))
        go_simp
        refine hK _ _ (fun _ => trivial) ?_
        clear hK K
        have hyB : (M.set r yk)[k]? = some yk := by rw [List.getElem?_set_ne (by omega)]; exact HY.out
        obtain ⟨a0, a1, a2, a3, a4, a5, a6⟩ := row_cells7 R1.out hyB
        have f0 := Row.frz R1.out (k * 7)
        have f1 := Row.frz R1.out (k * 7 + 1)
        have f2 := Row.frz R1.out (k * 7 + 2)
        have f3 := Row.frz R1.out (k * 7 + 3)
        have f4 := Row.frz R1.out (k * 7 + 4)
        have f5 := Row.frz R1.out (k * 7 + 5)
        have f6 := Row.frz R1.out (k * 7 + 6)
        obtain ⟨r1, x1, q1, o1⟩ := qn_write R1.out (by rw [List.length_set]; exact HML.out) (k := k) (by omega) yr X1.out h0 Q1.out
        have R2 := Lib.hid r1
        have X2 := Lib.hid x1
        have Q2 := Lib.hid q1
        have V2 := Lib.hid ((o1 _ HBG.out).trans V1.out)
        have C2 := Lib.hid ((o1 _ HBG2.out).trans C1.out)
        have D2 := Lib.hid ((o1 _ HBG5.out).trans D1.out)
        clear r1 x1 q1 o1
        (refine wpAnyK_one (i := 15) (o := ?_) ?_ ?_ ?_ (fun K hK => ?_); rotate_left 1; (focus kernel_rfl); (focus (simp only [List.getElem?_toArray, List.getElem?_cons_zero, List.getElem?_cons_succ]; rfl)); (focus rfl))
        go_simp
        generalize (((((((wB.setCell ⟨g, k * 7, none⟩ (.float .f64 (floatOfInt .f64 (yr.d : Int)))).setCell ⟨g, k * 7 + 1, none⟩ (.int .i64 yr.r.x0)).setCell ⟨g, k * 7 + 2, none⟩ (.int .i64 yr.r.y0)).setCell ⟨g, k * 7 + 3, none⟩ (.int .i64 yr.r.x1)).setCell ⟨g, k * 7 + 4, none⟩ (.int .i64 yr.r.y1)).setCell ⟨g, k * 7 + 5, none⟩ (.int .i64 yr.v)).setCell ⟨g, k * 7 + 6, none⟩ (.pointer yr.p)) = wC at R2 X2 Q2 V2 C2 D2 hK ⊢
        refine hK _ _ (fun _ => trivial) ?_
        clear hK K a0 a1 a2 a3 a4 a5 a6 f0 f1 f2 f3 f4 f5 f6 hyB
        refine wpAnyK_done (by kernel_rfl) ?_ _
        have hsw : HeapDn (kyL QN.d ((M.set r yk).set k yr)) m r := by
          rw [sw_ky QN.d Hyr.out Hyk.out]
          refine HDN.out.step (by omega) (by omega) (by omega) (by rw [Kyr.out, Kyk.out]; omega) fun t t0 tn tp => ?_
          rcases (by omega : t = l ∨ t = r) with rfl | rfl
          · rw [Kyr.out, Kyl.out]; omega
          · exact Nat.le_refl _
        have HSW := Lib.hid hsw
        have HPS := Lib.hid (sw_perm Hyr.out Hyk.out)
        clear hsw
        go_wp2_with fail
        go_roundw
        case measure => simp [intOf]; omega
        case rel => exact ⟨r, by omega, by go_num, ⟨_, R2.out, HPS.out.trans HPM.out, HSW.out, by omega⟩, V2.out, C2.out, D2.out, X2.out, Q2.out⟩
      · rw [decide_eq_false hre] at gr
        (refine Mix.wp_region_dr (by kernel_rfl) (by kernel_rfl) ?_; (repeat (go_big_quiet_step (fail))); refine wpQuiet_nil ?_; intro nq)
        have HROW9 := Lib.hid (HROW.out.ex ((Mix.Ex.refl wr).drewN nq))
        have HX9 := Lib.hid (HX.out.drewN nq)
        have HQ9 := Lib.hid (HQ.out.ex ((Mix.Ex.refl wr).drewN nq))
        have HV9 : Hid ((wr.drewN nq).heap[Bq]? = _) := Lib.hid HV.out
        have HO29 : Hid ((wr.drewN nq).heap[B2]? = _) := Lib.hid HO2.out
        have HO59 : Hid ((wr.drewN nq).heap[B5]? = _) := Lib.hid HO5.out
        clear HROW HX HQ HV HO2 HO5
        generalize wr.drewN nq = wr at HROW9 HX9 HQ9 HV9 HO29 HO59 ⊢
        have HROW := HROW9
        have HX := HX9
        have HQ := HQ9
        have HV := HV9
        have HO2 := HO29
        have HO5 := HO59
        clear HROW9 HX9 HQ9 HV9 HO29 HO59
        clear cs cr gr g2
        have hkk : ((k : Int) == k) = true := by simp
        have hH : IsHeap QN.d M := by
                  unfold IsHeap
                  rw [HML.out]
                  refine HDN.out.done fun t t0 tn tp => ?_
                  rcases (by omega : t = l ∨ t = r) with rfl | rfl
                  · rw [Kyk.out, Kyl.out]; omega
                  · rw [Kyk.out, Kyr.out]; omega
        have HH := Lib.hid hH
        clear hH
        have a0 := cellOf HO5.out 0
        have b0 := cellOf HO2.out 0
        have f0 := frzOf HO2.out 0
        have a1 := cellOf HO5.out 1
        have b1 := cellOf HO2.out 1
        have f1 := frzOf HO2.out 1
        have a2 := cellOf HO5.out 2
        have b2 := cellOf HO2.out 2
        have f2 := frzOf HO2.out 2
        have a3 := cellOf HO5.out 3
        have b3 := cellOf HO2.out 3
        have f3 := frzOf HO2.out 3
        have a4 := cellOf HO5.out 4
        have b4 := cellOf HO2.out 4
        have f4 := frzOf HO2.out 4
        have a5 := cellOf HO5.out 5
        have b5 := cellOf HO2.out 5
        have f5 := frzOf HO2.out 5
        have a6 := cellOf HO5.out 6
        have b6 := cellOf HO2.out 6
        have f6 := frzOf HO2.out 6
        simp only [List.getElem?_toArray, List.getElem?_cons_zero, List.getElem?_cons_succ] at a0 b0 a1 b1 a2 b2 a3 b3 a4 b4 a5 b5 a6 b6
        have o2 := (setCell_obj (setCell_obj (setCell_obj (setCell_obj (setCell_obj (setCell_obj (setCell_obj HO2.out 0 (.float .f64 (floatOfInt .f64 (x.d : Int)))) 1 (.int .i64 x.r.x0)) 2 (.int .i64 x.r.y0)) 3 (.int .i64 x.r.x1)) 4 (.int .i64 x.r.y1)) 5 (.int .i64 x.v)) 6 (.pointer x.p))
        simp only [List.setIfInBounds_toArray, List.set_cons_zero, List.set_cons_succ] at o2
        have x2 := (((((((HX.out.setCell (p := ⟨B2, 0, none⟩) hwB2 (.float .f64 (floatOfInt .f64 (x.d : Int)))).setCell (p := ⟨B2, 1, none⟩) hwB2 (.int .i64 x.r.x0)).setCell (p := ⟨B2, 2, none⟩) hwB2 (.int .i64 x.r.y0)).setCell (p := ⟨B2, 3, none⟩) hwB2 (.int .i64 x.r.x1)).setCell (p := ⟨B2, 4, none⟩) hwB2 (.int .i64 x.r.y1)).setCell (p := ⟨B2, 5, none⟩) hwB2 (.int .i64 x.v)).setCell (p := ⟨B2, 6, none⟩) hwB2 (.pointer x.p))
        have q2 := (((((((HQ.out.setCell (o := 0) HO2.out (.inr rfl) (.float .f64 (floatOfInt .f64 (x.d : Int)))).setCell (o := 1) (setCell_obj HO2.out 0 (.float .f64 (floatOfInt .f64 (x.d : Int)))) (.inr rfl) (.int .i64 x.r.x0)).setCell (o := 2) (setCell_obj (setCell_obj HO2.out 0 (.float .f64 (floatOfInt .f64 (x.d : Int)))) 1 (.int .i64 x.r.x0)) (.inr rfl) (.int .i64 x.r.y0)).setCell (o := 3) (setCell_obj (setCell_obj (setCell_obj HO2.out 0 (.float .f64 (floatOfInt .f64 (x.d : Int)))) 1 (.int .i64 x.r.x0)) 2 (.int .i64 x.r.y0)) (.inr rfl) (.int .i64 x.r.x1)).setCell (o := 4) (setCell_obj (setCell_obj (setCell_obj (setCell_obj HO2.out 0 (.float .f64 (floatOfInt .f64 (x.d : Int)))) 1 (.int .i64 x.r.x0)) 2 (.int .i64 x.r.y0)) 3 (.int .i64 x.r.x1)) (.inr rfl) (.int .i64 x.r.y1)).setCell (o := 5) (setCell_obj (setCell_obj (setCell_obj (setCell_obj (setCell_obj HO2.out 0 (.float .f64 (floatOfInt .f64 (x.d : Int)))) 1 (.int .i64 x.r.x0)) 2 (.int .i64 x.r.y0)) 3 (.int .i64 x.r.x1)) 4 (.int .i64 x.r.y1)) (.inr rfl) (.int .i64 x.v)).setCell (o := 6) (setCell_obj (setCell_obj (setCell_obj (setCell_obj (setCell_obj (setCell_obj HO2.out 0 (.float .f64 (floatOfInt .f64 (x.d : Int)))) 1 (.int .i64 x.r.x0)) 2 (.int .i64 x.r.y0)) 3 (.int .i64 x.r.x1)) 4 (.int .i64 x.r.y1)) 5 (.int .i64 x.v)) (.inr rfl) (.pointer x.p))
        have v2 : (((((((wr.setCell ⟨B2, 0, none⟩ (.float .f64 (floatOfInt .f64 (x.d : Int)))).setCell ⟨B2, 1, none⟩ (.int .i64 x.r.x0)).setCell ⟨B2, 2, none⟩ (.int .i64 x.r.y0)).setCell ⟨B2, 3, none⟩ (.int .i64 x.r.x1)).setCell ⟨B2, 4, none⟩ (.int .i64 x.r.y1)).setCell ⟨B2, 5, none⟩ (.int .i64 x.v)).setCell ⟨B2, 6, none⟩ (.pointer x.p)).heap[Bq]? = _ := ((setCell_ne 6 hqB2 (.pointer x.p) none).trans ((setCell_ne 5 hqB2 (.int .i64 x.v) none).trans ((setCell_ne 4 hqB2 (.int .i64 x.r.y1) none).trans ((setCell_ne 3 hqB2 (.int .i64 x.r.x1) none).trans ((setCell_ne 2 hqB2 (.int .i64 x.r.y0) none).trans ((setCell_ne 1 hqB2 (.int .i64 x.r.x0) none).trans ((setCell_ne 0 hqB2 (.float .f64 (floatOfInt .f64 (x.d : Int))) none).trans HV.out)))))))
        have r2 : (((((((wr.setCell ⟨B2, 0, none⟩ (.float .f64 (floatOfInt .f64 (x.d : Int)))).setCell ⟨B2, 1, none⟩ (.int .i64 x.r.x0)).setCell ⟨B2, 2, none⟩ (.int .i64 x.r.y0)).setCell ⟨B2, 3, none⟩ (.int .i64 x.r.x1)).setCell ⟨B2, 4, none⟩ (.int .i64 x.r.y1)).setCell ⟨B2, 5, none⟩ (.int .i64 x.v)).setCell ⟨B2, 6, none⟩ (.pointer x.p)).Row base 126 7 qnV (.slice (some ⟨g, 0, none⟩) m cap) M := HROW.out.of_block fun k hk => by
          simp only [Value.ownBlock, Option.some.injEq] at hk
          subst hk
          exact ((setCell_ne 6 hgB2 (.pointer x.p) none).trans ((setCell_ne 5 hgB2 (.int .i64 x.v) none).trans ((setCell_ne 4 hgB2 (.int .i64 x.r.y1) none).trans ((setCell_ne 3 hgB2 (.int .i64 x.r.x1) none).trans ((setCell_ne 2 hgB2 (.int .i64 x.r.y0) none).trans ((setCell_ne 1 hgB2 (.int .i64 x.r.x0) none).trans ((setCell_ne 0 hgB2 (.float .f64 (floatOfInt .f64 (x.d : Int))) none).trans rfl)))))))
        have O2 := Lib.hid o2
        have X2 := Lib.hid x2
        have Q2 := Lib.hid q2
        have V2 := Lib.hid v2
        have R2 := Lib.hid r2
        clear o2 x2 q2 v2 r2
        go_wp2_with fail
        generalize (((((((wr.setCell ⟨B2, 0, none⟩ (.float .f64 (floatOfInt .f64 (x.d : Int)))).setCell ⟨B2, 1, none⟩ (.int .i64 x.r.x0)).setCell ⟨B2, 2, none⟩ (.int .i64 x.r.y0)).setCell ⟨B2, 3, none⟩ (.int .i64 x.r.x1)).setCell ⟨B2, 4, none⟩ (.int .i64 x.r.y1)).setCell ⟨B2, 5, none⟩ (.int .i64 x.v)).setCell ⟨B2, 6, none⟩ (.pointer x.p)) = wz at O2 X2 Q2 V2 R2 ⊢
        clear a0 b0 f0 a1 b1 f1 a2 b2 f2 a3 b3 f3 a4 b4 f4 a5 b5 f5 a6 b6 f6
        have b0 := cellOf O2.out 0
        have b1 := cellOf O2.out 1
        have b2 := cellOf O2.out 2
        have b3 := cellOf O2.out 3
        have b4 := cellOf O2.out 4
        have b5 := cellOf O2.out 5
        have b6 := cellOf O2.out 6
        simp only [List.getElem?_toArray, List.getElem?_cons_zero, List.getElem?_cons_succ] at b0 b1 b2 b3 b4 b5 b6
        refine bodyPost_ret (v := .tuple #[.agg #[.float .f64 (floatOfInt .f64 (x.d : Int)), .int .i64 x.r.x0, .int .i64 x.r.y0, .int .i64 x.r.x1, .int .i64 x.r.y1, .int .i64 x.v, .pointer x.p], .bool true]) (by simp [results, Try.results75, go_sem, b0, b1, b2, b3, b4, b5, b6]) rfl ?_
        exact ⟨x, M, rfl, (HPM.out.cons x).trans HPP.out, fun y hy => HLE.out y (HPM.out.mem_iff.1 hy), HH.out, ⟨lb, _, V2.out, R2.out⟩, X2.out, Q2.out⟩
end Go.Proofs.Ytboeldlilkeihaa
