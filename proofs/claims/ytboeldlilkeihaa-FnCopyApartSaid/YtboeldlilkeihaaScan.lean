/- The contracts of scan, Scan, ZZScan: all items, in order. -/
import Derived.Test.YtboeldlilkeihaaColl
import Derived.Test.YtboeldlilkeihaaTrB
import Derived.Test.YtboeldlilkeihaaCow
import Derived.Test.YtboeldlilkeihaaSort
set_option linter.unusedSimpArgs false
set_option linter.unusedVariables false
namespace Go.Proofs.Ytboeldlilkeihaa
open Go.RowKit Go.Bx
/-- The items below the first k entries. -/
def itK {h : Nat} (X : Nat → R × An h) (k : Nat) : List (R × Int) := (lst k (mp An.t X)).flatMap fun e => its h e.1 e.2
theorem itK_zero {h : Nat} (X : Nat → R × An h) : itK X 0 = [] := rfl
theorem itK_succ {h : Nat} (X : Nat → R × An h) (k : Nat) : itK X (k + 1) = itK X k ++ its h (X k).1 (X k).2.t := by
  unfold itK
  rw [lst_succ, List.flatMap_append]; simp [mp]
theorem itK_le {h : Nat} (X : Nat → R × An h) {n k : Nat} (hk : k ≤ n) : (itK X k).length ≤ (itK X n).length := by
  obtain ⟨m, rfl⟩ : ∃ m, n = k + m := ⟨n - k, by omega⟩
  unfold itK
  rw [lst_add, List.flatMap_append, List.length_append]; omega
theorem itsN_itK {h : Nat} (X : Nat → R × An h) (n : Nat) : itsN h ⟨n, mp An.t X⟩ = itK X n := rfl
/-- What scan does at a node of height h. -/
def ScanC (c : Int) (Z : Nat → Prop) (w0 : World) (base pb pd h : Nat) : Prop :=
  ∀ (v : Value) (t : Nde (El h)) (s : Nat → Prop), ElAt c Z w0 (h + 1) v t s → ∀ (w : World) (L : List (R × Int)), Coll w base pb pd L → Mix.Ex w0 w → L.length + (itsN h t).length ≤ 900000 →
    Calls Try.prog 73 #[v, .func (.func 56) #[] #[.pointer (some ⟨pb, 0, none⟩), .pointer (some ⟨pd, 0, none⟩)]] w fun e w' => e = .returned (.bool true) ∧ Coll w' base pb pd (L ++ itsN h t) ∧ Mix.Ex w0 w'
set_option maxRecDepth 100000 in
set_option maxHeartbeats 1600000 in
theorem scan_leaf (c : Int) (Z : Nat → Prop) (w0 : World) (base pb pd : Nat) (h0 : w0.heap.size ≤ pb) (h1 : w0.heap.size ≤ pd) : ScanC c Z w0 base pb pd 0 := by
  rintro v ⟨n, E⟩ s ⟨p, q, ic, X, rfl, ⟨hN, hL, -, hpq, hn⟩, hE, he, -⟩ w L hC hx hl
  dsimp only at hN hL hE he hn
  subst hE
  dsimp only [leafB] at hN hL
  rw [itsN_itK] at hl ⊢
  have HE := Lib.hid he
  clear he
  have HNN := Lib.hid hN
  have HLL := Lib.hid hL
  have hLf := leaf_c w p _ (hN.ex hx)
  clear hN hL
  go_enter Try.func73, Try.ntmps73
  go_wp2_with fail
  refine hLf.mono ?_
  rintro e w1 ⟨rfl, rfl⟩
  clear hLf
  go_wp2_with fail
  go_loopw [5] (fun i wr => ∃ kk : Nat, kk ≤ n ∧ i = .int .i64 kk ∧ Coll wr base pb pd (L ++ itK X kk) ∧ Mix.Ex w0 wr) (fun i _ => n - (intOf i).toNat)
  case atStart => exact ⟨0, by omega, rfl, by rw [itK_zero, List.append_nil]; exact hC, hx⟩
  case round =>
    obtain ⟨kk, hk, rfl, hCr, hxr⟩ := hrel
    have HCR := Lib.hid hCr
    have HXR := Lib.hid hxr
    have hNr := HNN.out.ex hxr
    have c2 : wr.cell? ⟨p, 2, none⟩ = some (.int .i16 n) := hNr.cell2
    clear hCr hxr hC hx
    by_cases hlt : kk < n
    case neg =>
      have hkn : kk = n := by omega
      subst hkn
      go_wp2_with fail
      go_ret
      exact ⟨rfl, HCR.out, HXR.out⟩
    go_upto_region 5 with (fail)
    have hlr : ListAt wr q (elT true) (fE (mp An.v X)) := (Chg.ex (S := fun _ => False) HXR.out).list HLL.out (fun h => h)
    have hcl0 := hlr.cell (i := kk) (by omega)
    have hvx : (X kk).2.v = .int .i64 ((X kk).2.t : Int) := (HE.out (X kk) (mem_lst.2 ⟨kk, hlt, rfl⟩)).1
    have hcl : wr.cell? ⟨q, kk, none⟩ = some (.int .i64 ((X kk).2.t : Int)) := by rw [hcl0]; show some ((X kk).2.v) = _; rw [hvx]
    clear hcl0
    have r0 : wr.cell? ⟨p, 3 + kk * 4, none⟩ = some (.int .i64 (X kk).1.x0) := cell_rcell hNr (i := kk) (j := 0) (by omega) (by omega)
    have r1 : wr.cell? ⟨p, 3 + kk * 4 + 1, none⟩ = some (.int .i64 (X kk).1.y0) := cell_rcell hNr (i := kk) (j := 1) (by omega) (by omega)
    have r2 : wr.cell? ⟨p, 3 + kk * 4 + 2, none⟩ = some (.int .i64 (X kk).1.x1) := cell_rcell hNr (i := kk) (j := 2) (by omega) (by omega)
    have r3 : wr.cell? ⟨p, 3 + kk * 4 + 3, none⟩ = some (.int .i64 (X kk).1.y1) := cell_rcell hNr (i := kk) (j := 3) (by omega) (by omega)
    have hI := fun m => items_c (wr.drewN m) p _ (hNr.drewN m) rfl
    dsimp only at hI
    have hll := itK_le X (n := n) (k := kk + 1) (by omega)
    rw [itK_succ, List.length_append] at hll
    obtain ⟨r, hr⟩ : ∃ r, (X kk).1 = r := ⟨_, rfl⟩
    obtain ⟨y, hy⟩ : ∃ y : Int, (X kk).2.t = y := ⟨_, rfl⟩
    rw [hr] at r0 r1 r2 r3
    rw [hy] at hcl
    have hsn : (L ++ itK X kk) ++ [(r, y)] = L ++ itK X (kk + 1) := by
      rw [itK_succ, List.append_assoc, hr, hy]; rfl
    have hlk : (L ++ itK X kk).length ≤ 900000 := by rw [List.length_append]; omega
    have hClo := fun m => scanClo_c w0 (wr.drewN m) base pb pd _ (r, y) (HCR.out.ex ((Mix.Ex.refl wr).drewN m)) hlk (HXR.out.drewN m) h0 h1
    rw [hsn] at hClo
    dsimp only at hClo
    clear hsn hll hvx hNr hy hr hlk
    (refine Mix.wp_region_drw 20 [1] (by kernel_rfl) (by kernel_rfl) ?_; simp only [List.take_succ_cons, List.take_zero, List.drop_succ_cons, List.drop_zero]; (repeat (go_big_quiet_step ((go_at_call 76; exact Mix.calls_q (hI _) ⟨_, rfl⟩)))); refine wpQuiet_nil ?_)
    (refine Mix.wpTl_dr (fun n K hK => ?_); go_simp)
    refine (hClo _).mono ?_
    rintro e w3 ⟨rfl, hC3, hx3, -⟩
    refine ⟨_, rfl, _, Mix.Dr.refl _, hK _ _ trivial ?_⟩
    (clear hK K; simp only [Act.put, List.setIfInBounds_toArray, List.set_cons_zero, List.set_cons_succ, List.take_succ_cons, List.take_zero, List.drop_succ_cons, List.drop_zero])
    (repeat (go_big_quiet_step (fail)))
    (refine wpQuiet_nil ?_; intro nq)
    have HC3 := Lib.hid hC3
    have HX3 := Lib.hid hx3
    clear hC3 hx3 hClo hI hcl r0 r1 r2 r3 c2
    go_wp2_with fail
    go_roundw
    case measure => simp [intOf]; omega
    case rel => exact ⟨kk + 1, by omega, by go_num, HC3.out.ex ((Mix.Ex.refl _).drewN _), HX3.out.drewN _⟩
set_option maxRecDepth 100000 in
set_option maxHeartbeats 1600000 in
theorem scan_branch (c : Int) (Z : Nat → Prop) (w0 : World) (base pb pd h : Nat) (IH : ScanC c Z w0 base pb pd h) : ScanC c Z w0 base pb pd (h + 1) := by
  rintro v ⟨n, E⟩ s ⟨p, q, ic, X, rfl, ⟨hN, hL, -, hpq, hn⟩, hE, he, -⟩ w L hC hx hl
  dsimp only at hN hL hE he hn
  subst hE
  dsimp only [leafB] at hN hL
  rw [itsN_itK] at hl ⊢
  have HE := Lib.hid he
  clear he
  have HNN := Lib.hid hN
  have HLL := Lib.hid hL
  have hLf := leaf_c w p _ (hN.ex hx)
  clear hN hL
  go_enter Try.func73, Try.ntmps73
  go_wp2_with fail
  refine hLf.mono ?_
  rintro e w1 ⟨rfl, rfl⟩
  clear hLf
  go_wp2_with fail
  go_loopw [6] (fun i wr => ∃ kk : Nat, kk ≤ n ∧ i = .int .i64 kk ∧ Coll wr base pb pd (L ++ itK X kk) ∧ Mix.Ex w0 wr) (fun i _ => n - (intOf i).toNat)
  case atStart => exact ⟨0, by omega, rfl, by rw [itK_zero, List.append_nil]; exact hC, hx⟩
  case round =>
    obtain ⟨kk, hk, rfl, hCr, hxr⟩ := hrel
    have HCR := Lib.hid hCr
    have HXR := Lib.hid hxr
    have hNr := HNN.out.ex hxr
    have c2 : wr.cell? ⟨p, 2, none⟩ = some (.int .i16 n) := hNr.cell2
    clear hCr hxr hC hx
    by_cases hlt : kk < n
    case neg =>
      have hkn : kk = n := by omega
      subst hkn
      go_wp2_with fail
      go_ret
      exact ⟨rfl, HCR.out, HXR.out⟩
    have hlr : ListAt wr q (elT false) (fE (mp An.v X)) := (Chg.ex (S := fun _ => False) HXR.out).list HLL.out (fun h => h)
    have hcl : wr.cell? ⟨q, kk, none⟩ = some ((X kk).2.v) := hlr.cell (i := kk) (by omega)
    have hI := children_c wr p _ hNr rfl
    dsimp only at hI
    have hll := itK_le X (n := n) (k := kk + 1) (by omega)
    have hsn : (L ++ itK X kk) ++ itsN h (X kk).2.t = L ++ itK X (kk + 1) := by
      rw [itK_succ, List.append_assoc]; rfl
    have hClo := IH _ _ _ (HE.out (X kk) (mem_lst.2 ⟨kk, hlt, rfl⟩)) wr _ HCR.out HXR.out (by
      rw [← List.length_append, hsn, List.length_append]; omega)
    rw [hsn] at hClo
    clear hsn hll hNr
    generalize (X kk).2.v = y at hcl hClo
    go_wp2_with fail
    refine hI.mono ?_
    rintro e w2 ⟨rfl, rfl⟩
    go_wp2_with fail
    refine hClo.mono ?_
    rintro e w3 ⟨rfl, hC3, hx3⟩
    have HC3 := Lib.hid hC3
    have HX3 := Lib.hid hx3
    clear hC3 hx3 hClo hI hcl c2
    go_wp2_with fail
    go_roundw
    case measure => simp [intOf]; omega
    case rel => exact ⟨kk + 1, by omega, by go_num, HC3.out, HX3.out⟩
theorem scan_c (c : Int) (Z : Nat → Prop) (w0 : World) (base pb pd : Nat) (h0 : w0.heap.size ≤ pb) (h1 : w0.heap.size ≤ pd) : ∀ h, ScanC c Z w0 base pb pd h
  | 0 => scan_leaf c Z w0 base pb pd h0 h1
  | h + 1 => scan_branch c Z w0 base pb pd h (scan_c c Z w0 base pb pd h0 h1 h)
end Go.Proofs.Ytboeldlilkeihaa
