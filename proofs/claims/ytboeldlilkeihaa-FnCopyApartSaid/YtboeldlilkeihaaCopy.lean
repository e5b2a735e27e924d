/- New nodes, and copies of parts. -/
import Derived.Test.YtboeldlilkeihaaNode
import Derived.Test.YtboeldlilkeihaaLst
import Derived.Laws.MakeOwn
import Derived.KernelRfl
import Derived.Laws.CopyRow
set_option linter.unusedSimpArgs false
set_option linter.unusedVariables false
/- What the operations of 'newNode' yield. -/
namespace Go.Proofs.Ytboeldlilkeihaa
open Go.RowKit Go.Bx

/-- What a new list holds. -/
def zeroE (b : Bool) : Nat → Value := fun _ => if b then .int .i64 0 else .pointer none
def newNd (ic : Int) (b : Bool) (q : Nat) : Nd := ⟨ic, b, 0, q, fun _ => R0⟩
theorem info_int : (Try.prog.info? 3).map (fun i => (i.zero, i.size, i.bytes)) = some (some (.int .i64 0), 1, 8) := by kernel_rfl
theorem info_ptr : (Try.prog.info? 92).map (fun i => (i.zero, i.size, i.bytes)) = some (some (.pointer none), 1, 8) := by kernel_rfl
theorem made_int : madeCells (Value.int .i64 0).cells 64 = lsCells (zeroE true) := by kernel_rfl
theorem made_ptr : madeCells (Value.pointer none).cells 64 = lsCells (zeroE false) := by kernel_rfl
theorem make_int (w : World) : (Instr.makeSlice 43 (.int .i64 64) (.int .i64 64)).run Try.prog w = .ok (.slice (some ⟨w.heap.size, 0, none⟩) 64 64) (w.alloc (.cells (lsCells (zeroE true)) 3)) := by
  obtain ⟨i0, hi0, hz0, hz1, hz2⟩ := info_parts info_int
  rw [run_make w _ _ i0 _ Try.underlying43 hi0 hz0 _ _ 64 64 (by omega) (by omega) (by rw [hz2]; omega) (by omega), hz1]
  rw [show (64 : Int).toNat = 64 from rfl, Nat.mul_one, made_int]
theorem make_ptr (w : World) : (Instr.makeSlice 105 (.int .i64 64) (.int .i64 64)).run Try.prog w = .ok (.slice (some ⟨w.heap.size, 0, none⟩) 64 64) (w.alloc (.cells (lsCells (zeroE false)) 92)) := by
  obtain ⟨i0, hi0, hz0, hz1, hz2⟩ := info_parts info_ptr
  rw [run_make w _ _ i0 _ Try.underlying105 hi0 hz0 _ _ 64 64 (by omega) (by omega) (by rw [hz2]; omega) (by omega), hz1]
  rw [show (64 : Int).toNat = 64 from rfl, Nat.mul_one, made_ptr]
theorem build_leaf (ic : Int) (g : Nat) (w : World) : (Instr.build 110 #[(0, .int .u64 ic), (1, .int .i8 1), (4, .slice (some ⟨g, 0, none⟩) 64 64)]).run Try.prog w = .ok (.agg (ndCells (newNd ic true g))) w := by kernel_rfl
theorem build_branch (ic : Int) (g : Nat) (w : World) : (Instr.build 110 #[(0, .int .u64 ic), (1, .int .i8 2), (5, .slice (some ⟨g, 0, none⟩) 64 64)]).run Try.prog w = .ok (.agg (ndCells (newNd ic false g))) w := by kernel_rfl
theorem box_node (N : Nd) (w : World) : (Instr.box 110 (.agg (ndCells N))).run Try.prog w = .ok (.pointer (some ⟨w.heap.size, 0, none⟩)) (w.alloc (.cells (ndCells N) 110)) := by kernel_rfl
end Go.Proofs.Ytboeldlilkeihaa
/- The contract of 'newNode': an empty node with its list. -/
namespace Go.Proofs.Ytboeldlilkeihaa
open Go.RowKit Go.Bx
attribute [local go_sem ↓] make_int make_ptr
theorem cells_leaf (ic : Int) (g : Nat) : (((Try.zeroCells110.setIfInBounds 0 (Value.int .u64 ic)).setIfInBounds 1 (Value.int .i8 1)).setIfInBounds 259 (Value.slice (some ⟨g, 0, none⟩) 64 64)) = ndCells (newNd ic true g) := by kernel_rfl
theorem cells_branch (ic : Int) (g : Nat) : (((Try.zeroCells110.setIfInBounds 0 (Value.int .u64 ic)).setIfInBounds 1 (Value.int .i8 2)).setIfInBounds 260 (Value.slice (some ⟨g, 0, none⟩) 64 64)) = ndCells (newNd ic false g) := by kernel_rfl
theorem ListAt.alloc_new (w : World) (T : TypeId) (f : Nat → Value) {q : Nat} (hq : w.heap.size = q) : ListAt (w.alloc (.cells (lsCells f) T)) q T f := by
  subst hq; exact heap_alloc_new w _
theorem NodeAt.alloc_new (w : World) (N : Nd) {p : Nat} (hp : w.heap.size = p) : NodeAt (w.alloc (.cells (ndCells N) 110)) p N := by
  subst hp; exact heap_alloc_new w _
set_option maxRecDepth 100000 in
set_option maxHeartbeats 400000 in
theorem newNode_t (w : World) (t : Nat) (ic : Int) (ht : w.cell? ⟨t, 0, none⟩ = some (.int .u64 ic)) :
    Calls Try.prog 79 #[.pointer (some ⟨t, 0, none⟩), .bool true] w fun e w' => ∃ p q, e = .returned (.pointer (some ⟨p, 0, none⟩)) ∧ NodeAt w' p (newNd ic true q) ∧ ListAt w' q (elT true) (zeroE true) ∧ p ≠ q ∧ w.heap.size ≤ p ∧ w.heap.size ≤ q ∧ Mix.Ex w w' := by
  go_enter Try.func79, Try.ntmps79
  go_wp2_with fail
  have htl := World.block_lt_of_cell? w _ ht
  dsimp only at htl
  (refine Mix.wp_region_new 4 [1, 1] (by kernel_rfl) (by kernel_rfl) ?_; simp only [List.take_succ_cons, List.take_zero, List.drop_succ_cons, List.drop_zero])
  (repeat (go_big_quiet_step (fail))); refine wpQuiet_nil ?_
  refine Mix.wpTl_dr (fun n K hK => ?_)
  go_simp
  refine ⟨_, ⟨n, rfl⟩, (Mix.Ex.refl _).alloc _, hK _ _ ((Mix.Ex.refl _).alloc _) ?_⟩
  (clear hK K; simp only [Act.put, List.setIfInBounds_toArray, List.set_cons_zero, List.set_cons_succ, List.take_succ_cons, List.take_zero, List.drop_succ_cons, List.drop_zero])
  (repeat (go_big_quiet_step (fail))); refine wpQuiet_nil ?_
  refine Mix.wpTl_dr (fun n K hK => ?_)
  go_simp
  rw [cells_leaf]
  have hx : Mix.Ex w ((w.alloc (.cells (lsCells (zeroE true)) 3)).alloc (.cells (ndCells (newNd ic true w.heap.size)) 110)) := ((Mix.Ex.refl _).alloc _).alloc _
  refine ⟨_, ⟨n, rfl⟩, hx, hK _ _ hx ?_⟩
  (clear hK K; simp only [Act.put, List.setIfInBounds_toArray, List.set_cons_zero, List.set_cons_succ, List.take_succ_cons, List.take_zero, List.drop_succ_cons, List.drop_zero])
  (repeat (go_big_quiet_step (fail)))
  (refine wpQuiet_nil ?_; intro nq)
  go_wp2_with fail
  go_ret
  refine ⟨w.heap.size + 1, w.heap.size, rfl, ?_, ?_, by omega, by omega, by omega, hx.drewN _⟩
  · exact (NodeAt.alloc_new _ _ (by simp)).drewN _
  · exact ((ListAt.alloc_new w _ _ rfl).ex ((Mix.Ex.refl _).alloc _)).drewN _

set_option maxRecDepth 100000 in
set_option maxHeartbeats 400000 in
theorem newNode_f (w : World) (t : Nat) (ic : Int) (ht : w.cell? ⟨t, 0, none⟩ = some (.int .u64 ic)) :
    Calls Try.prog 79 #[.pointer (some ⟨t, 0, none⟩), .bool false] w fun e w' => ∃ p q, e = .returned (.pointer (some ⟨p, 0, none⟩)) ∧ NodeAt w' p (newNd ic false q) ∧ ListAt w' q (elT false) (zeroE false) ∧ p ≠ q ∧ w.heap.size ≤ p ∧ w.heap.size ≤ q ∧ Mix.Ex w w' := by
  go_enter Try.func79, Try.ntmps79
  go_wp2_with fail
  have htl := World.block_lt_of_cell? w _ ht
  dsimp only at htl
  (refine Mix.wp_region_new 4 [1, 1] (by kernel_rfl) (by kernel_rfl) ?_; simp only [List.take_succ_cons, List.take_zero, List.drop_succ_cons, List.drop_zero])
  (repeat (go_big_quiet_step (fail))); refine wpQuiet_nil ?_
  refine Mix.wpTl_dr (fun n K hK => ?_)
  go_simp
  refine ⟨_, ⟨n, rfl⟩, (Mix.Ex.refl _).alloc _, hK _ _ ((Mix.Ex.refl _).alloc _) ?_⟩
  (clear hK K; simp only [Act.put, List.setIfInBounds_toArray, List.set_cons_zero, List.set_cons_succ, List.take_succ_cons, List.take_zero, List.drop_succ_cons, List.drop_zero])
  (repeat (go_big_quiet_step (fail))); refine wpQuiet_nil ?_
  refine Mix.wpTl_dr (fun n K hK => ?_)
  go_simp
  rw [cells_branch]
  have hx : Mix.Ex w ((w.alloc (.cells (lsCells (zeroE false)) 92)).alloc (.cells (ndCells (newNd ic false w.heap.size)) 110)) := ((Mix.Ex.refl _).alloc _).alloc _
  refine ⟨_, ⟨n, rfl⟩, hx, hK _ _ hx ?_⟩
  (clear hK K; simp only [Act.put, List.setIfInBounds_toArray, List.set_cons_zero, List.set_cons_succ, List.take_succ_cons, List.take_zero, List.drop_succ_cons, List.drop_zero])
  (repeat (go_big_quiet_step (fail)))
  (refine wpQuiet_nil ?_; intro nq)
  go_wp2_with fail
  go_ret
  refine ⟨w.heap.size + 1, w.heap.size, rfl, ?_, ?_, by omega, by omega, by omega, hx.drewN _⟩
  · exact (NodeAt.alloc_new _ _ (by simp)).drewN _
  · exact ((ListAt.alloc_new w _ _ rfl).ex ((Mix.Ex.refl _).alloc _)).drewN _

theorem newNode_c (w : World) (t : Nat) (ic : Int) (b : Bool) (ht : w.cell? ⟨t, 0, none⟩ = some (.int .u64 ic)) :
    Calls Try.prog 79 #[.pointer (some ⟨t, 0, none⟩), .bool b] w fun e w' => ∃ p q, e = .returned (.pointer (some ⟨p, 0, none⟩)) ∧ NodeAt w' p (newNd ic b q) ∧ ListAt w' q (elT b) (zeroE b) ∧ p ≠ q ∧ w.heap.size ≤ p ∧ w.heap.size ≤ q ∧ Mix.Ex w w' := by
  cases b
  · exact newNode_f w t ic ht
  · exact newNode_t w t ic ht
end Go.Proofs.Ytboeldlilkeihaa
/- What the builtin 'copy' does to the boxes of a node and to its list. -/
namespace Go
open Go.RowKit Go.Bx
/-- A copy, elements of any size, into a block that is known whole. -/
theorem run_copy_big {P : Program} (w : World) (dT sT ty elem : TypeId) (sz : Nat) (g o dLen dCap : Nat) (a : Addr) (sLen sCap : Nat) (cur : Array Value) (t : TypeId) (cs : List Value) (n : Nat)
    (hu : P.underlying dT = some (.slice elem)) (hs : (P.info? elem).map (·.size) = some sz)
    (hg : w.heap[g]? = some (.cells cur t (0, 0))) (hn : Nat.min sLen dLen = n) (hl : cs.length = n * sz)
    (hsrc : ∀ j v, cs[j]? = some v → w.cell? (a.add j) = some v) (hfit : o + cs.length ≤ cur.size) (h1 : ∀ v ∈ cs, v.oneCell' = true) :
    (Builtin.copy_ #[dT, sT] ty #[.slice (some ⟨g, o, none⟩) dLen dCap, .slice (some a) sLen sCap]).run P w =
      .ok (goInt n) (w.setRow g (cur.toList.take o ++ cs ++ cur.toList.drop (o + cs.length)).toArray) := by
  have hld := run_loadCells_list (P := P) w a cs hsrc
  have hst := run_storeCells_at P g o t cs 0 cur w hg (by simpa using hfit) h1
  cases hq : P.info? elem with
  | none => simp [hq] at hs
  | some i =>
    have hi : i.size = sz := by simpa [hq] using hs
    rw [hl] at hld
    simp [Builtin.copy_, run_underlying hu, Builtin.lenOf, Builtin.firstCells, sizeOf, typeInfo, hq, hi, hn, hld, hst]
namespace Bx
/-- k entries of f from s on, laid into g from d on. -/
def mv2 {α : Type} (g f : Nat → α) (d s k : Nat) : Nat → α := fun i => if d ≤ i ∧ i < d + k then f (s + (i - d)) else g i
theorem mv2_up {α : Type} (f : Nat → α) (i n : Nat) : mv2 f f (i + 1) i (n - i) = shiftR f i n := by
  funext k
  unfold mv2 shiftR
  by_cases h : i < k ∧ k ≤ n
  · rw [if_pos h, if_pos (by omega)]; congr 1; omega
  · rw [if_neg h, if_neg (by omega)]
theorem mv2_down {α : Type} (f : Nat → α) (i n : Nat) : mv2 f f i (i + 1) (n - (i + 1)) = shiftL f i n := by
  funext k
  unfold mv2 shiftL
  by_cases h : i ≤ k ∧ k + 1 < n
  · rw [if_pos h, if_pos (by omega)]; congr 1; omega
  · rw [if_neg h, if_neg (by omega)]
end Bx
theorem splice_ofFn (sz o len : Nat) (F G : Nat → Value) (h : o + len ≤ sz) :
    (((Array.ofFn (n := sz) fun i => F i).toList.take o ++ (List.range len).map G) ++ (Array.ofFn (n := sz) fun i => F i).toList.drop (o + ((List.range len).map G).length)).toArray = Array.ofFn (n := sz) fun i => if o ≤ (i : Nat) ∧ (i : Nat) < o + len then G (i - o) else F i := by
  apply Array.ext_getElem?
  intro m
  have hlen : ((Array.ofFn (n := sz) fun i => F i).toList.take o).length = o := by simp; omega
  simp only [List.getElem?_toArray, List.append_assoc]
  by_cases h1 : m < o
  · rw [List.getElem?_append_left (by omega), List.getElem?_take_of_lt h1]
    simp [show m < sz by omega, show ¬ o ≤ m by omega]
  · rw [List.getElem?_append_right (by omega), hlen]
    by_cases h2 : m < o + len
    · rw [List.getElem?_append_left (by simp; omega)]
      simp only [List.getElem?_map]
      rw [List.getElem?_range (by omega)]
      simp [show m < sz by omega, show o ≤ m by omega, h2]
    · rw [List.getElem?_append_right (by simp; omega)]
      simp only [List.length_map, List.length_range, List.getElem?_drop]
      rw [show o + len + (m - o - len) = m by omega]
      by_cases h3 : m < sz
      · simp [h3, show ¬ (m < o + len) by omega]
      · simp [h3]
theorem ndCell_one (N : Nd) (i : Nat) : (ndCell N i).oneCell' = true := by
  match i with
  | 0 => rfl
  | 1 => rfl
  | 2 => rfl
  | i + 3 =>
    simp only [ndCell]
    split
    · rfl
    · split <;> (unfold listOf; split <;> rfl)
section
variable (w : World) (p q : Nat) (N : Nd)
theorem World.setRow_putN (M : Nd) (cs : Array Value) (h : cs = ndCells M) : (w.putN p N).setRow p cs = w.putN p M := by
  subst h
  simp only [World.putN, World.setRow]
  rw [World.modify_set]
theorem World.setRow_putL (T : TypeId) (f g : Nat → Value) (cs : Array Value) (h : cs = lsCells g) : (w.putL q T f).setRow q cs = w.putL q T g := by
  subst h
  simp only [World.putL, World.setRow]
  rw [World.modify_set]
end
end Go
namespace Go.Proofs.Ytboeldlilkeihaa
open Go.RowKit Go.Bx
theorem size_rect : (Try.prog.info? 91).map (·.size) = some 4 := by kernel_rfl
theorem size_intE : (Try.prog.info? 3).map (·.size) = some 1 := by kernel_rfl
theorem size_ptrE : (Try.prog.info? 92).map (·.size) = some 1 := by kernel_rfl
theorem add_nil (b o j : Nat) : (⟨b, o, none⟩ : Addr).add j = ⟨b, o + j, none⟩ := by unfold Addr.add; split <;> simp_all
/-- A copy within a node's boxes. -/
theorem copyR_run (w : World) (p : Nat) (N : Nd) (ty : TypeId) (d dl dc s sl sc k : Nat) (hp : p < w.heap.size) (hk : Nat.min sl dl = k) (hd : d + k ≤ 64) (hs : s + k ≤ 64) :
    (Builtin.copy_ #[129, 129] ty #[.slice (some ⟨p, 3 + d * 4, none⟩) dl dc, .slice (some ⟨p, 3 + s * 4, none⟩) sl sc]).run Try.prog (w.putN p N) = .ok (goInt k) (w.putN p { N with rc := mv2 N.rc N.rc d s k }) := by
  have hN : (w.putN p N).heap[p]? = some (.cells (ndCells N) 110 (0, 0)) := NodeAt.put N hp
  rw [run_copy_big (w.putN p N) _ _ ty 91 4 p (3 + d * 4) dl dc ⟨p, 3 + s * 4, none⟩ sl sc (ndCells N) _ ((List.range (k * 4)).map fun m => ndCell N (3 + s * 4 + m)) k Try.underlying129 size_rect hN hk (by simp) ?_ ?_ ?_]
  · congr 1
    refine World.setRow_putN _ _ _ _ _ ?_
    unfold ndCells
    rw [splice_ofFn 261 (3 + d * 4) (k * 4) (ndCell N) (fun m => ndCell N (3 + s * 4 + m)) (by omega)]
    congr 1
    funext i
    obtain ⟨i, hi⟩ := i
    dsimp only
    match i, hi with
    | 0, _ => rw [if_neg (by omega)]; rfl
    | 1, _ => rw [if_neg (by omega)]; rfl
    | 2, _ => rw [if_neg (by omega)]; rfl
    | i + 3, hi =>
      by_cases h1 : i < 256
      · simp only [ndCell, h1, if_true]
        by_cases h2 : d ≤ i / 4 ∧ i / 4 < d + k
        · rw [if_pos (by omega)]
          unfold mv2
          rw [if_pos h2, show 3 + s * 4 + (i + 3 - (3 + d * 4)) = (s * 4 + (i - d * 4)) + 3 by omega]
          simp only [ndCell]
          rw [if_pos (by omega), show (s * 4 + (i - d * 4)) / 4 = s + (i / 4 - d) by omega, show (s * 4 + (i - d * 4)) % 4 = i % 4 by omega]
        · rw [if_neg (by omega)]
          unfold mv2
          rw [if_neg h2]
      · rw [if_neg (by omega)]
        simp only [ndCell, h1, if_false]
  · intro j v hj
    simp only [List.getElem?_map] at hj
    by_cases h1 : j < k * 4
    · rw [List.getElem?_range h1] at hj
      obtain rfl := Option.some.inj hj
      rw [add_nil, World.cell_putN _ _ _ _ hp (by omega)]
    · rw [List.getElem?_eq_none (by simp; omega)] at hj; cases hj
  · rw [size_ndCells]; simp; omega
  · intro v hv
    obtain ⟨m, _, rfl⟩ := List.mem_map.1 hv
    exact ndCell_one _ _
theorem Fit.one {b : Bool} {f : Nat → Value} (h : Fit b f) (i : Nat) : (f i).oneCell' = true := by
  cases b
  · obtain ⟨g, rfl⟩ := h; rfl
  · obtain ⟨g, rfl⟩ := h; rfl
/-- The element type of a list. -/
def slT (b : Bool) : TypeId := if b then 43 else 105
theorem slT_under (b : Bool) : Try.prog.underlying (slT b) = some (.slice (elT b)) := by
  cases b
  · exact Try.underlying105
  · exact Try.underlying43
theorem elT_size (b : Bool) : (Try.prog.info? (elT b)).map (·.size) = some 1 := by
  cases b
  · exact size_ptrE
  · exact size_intE
/-- A copy into a list, out of any block that holds a list's cells. -/
theorem copyL_run (w : World) (b : Bool) (q r : Nat) (T : TypeId) (g f : Nat → Value) (ty : TypeId) (d dl dc s sl sc k : Nat) (hq : q < w.heap.size) (hk : Nat.min sl dl = k) (hd : d + k ≤ 64) (hs : s + k ≤ 64) (hf : ∀ i, (f i).oneCell' = true)
    (hsrc : ∀ j, j < 64 → (w.putL q T g).cell? ⟨r, j, none⟩ = some (f j)) :
    (Builtin.copy_ #[slT b, slT b] ty #[.slice (some ⟨q, d, none⟩) dl dc, .slice (some ⟨r, s, none⟩) sl sc]).run Try.prog (w.putL q T g) = .ok (goInt k) (w.putL q T (mv2 g f d s k)) := by
  have hL : (w.putL q T g).heap[q]? = some (.cells (lsCells g) T (0, 0)) := ListAt.put T g hq
  rw [run_copy_big (w.putL q T g) _ _ ty (elT b) 1 q d dl dc ⟨r, s, none⟩ sl sc (lsCells g) _ ((List.range k).map fun m => f (s + m)) k (slT_under b) (elT_size b) hL hk (by simp) ?_ ?_ ?_]
  · congr 1
    refine World.setRow_putL _ _ _ _ _ _ ?_
    unfold lsCells
    rw [splice_ofFn 64 d k g (fun m => f (s + m)) (by omega)]
    rfl
  · intro j v hj
    simp only [List.getElem?_map] at hj
    by_cases h1 : j < k
    · rw [List.getElem?_range h1] at hj
      obtain rfl := Option.some.inj hj
      rw [add_nil]
      exact hsrc _ (by omega)
    · rw [List.getElem?_eq_none (by simp; omega)] at hj; cases hj
  · rw [size_lsCells]; simp; omega
  · intro v hv
    obtain ⟨m, _, rfl⟩ := List.mem_map.1 hv
    exact hf _
end Go.Proofs.Ytboeldlilkeihaa
namespace Go.Mix
/-- A copy, at a step of a region whose order is open. -/
theorem wpTl_copy {P : Program} {ops : Array Oper} {S C : World → Prop} {Q : Act → World → Prop} {k : Nat} {ks : List Nat} {o : Oper} {l : List Oper} {a : Act} {W : World} {j : Nat} (d s : Operand) (t t' : TypeId)
    (ho : o.op = .call { callee := .builtin .copy, args := #[d, s], argTypes := #[t, t'] }) (vd vs v : Value) (W' : World) (hd : a.eval d = vd) (hs : a.eval s = vs)
    (hr : ∀ n, (Builtin.copy_ #[t, t'] o.type #[vd, vs]).run P (W.drewN n) = .ok v (W'.drewN n)) (hS : S (W'.drewN j))
    (h : wpQuiet P ops C (fun a2 => wpTl P Dr S C ops Q ks (l.drop k) a2 (W'.drewN j)) (l.take k) (a.put o.dst v)) : wpTl P Dr S C ops Q (k :: ks) (o :: l) a (W.drewN j) := by
  refine wpTl_dr (fun n K hK => ?_)
  unfold execOp
  simp only [ho, resolve, invoke, builtin, Sem.run_bind, Sem.run_pure, Result.andThen_ok, List.map_toArray, List.map_cons, List.map_nil, hd, hs, World.drewN_drewN, hr (j + n)]
  exact ⟨W'.drewN j, ⟨n, (World.drewN_drewN _ _ _).symm⟩, hS, hK _ _ hS h⟩
end Go.Mix
