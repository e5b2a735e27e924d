/- The contracts of Scan, ZZScan, items, impl.Scan: all items in order. -/
import Derived.Test.YtboeldlilkeihaaScan
import Derived.Test.YtboeldlilkeihaaGrow
set_option linter.unusedSimpArgs false
set_option linter.unusedVariables false
namespace Go.Proofs.Ytboeldlilkeihaa
open Go.RowKit Go.Bx
theorem ElAt.ptr {c : Int} {Z : Nat → Prop} {w : World} {h : Nat} {v : Value} {t : El (h + 1)} {s : Nat → Prop} (k : ElAt c Z w (h + 1) v t s) : ∃ p, v = .pointer (some ⟨p, 0, none⟩) := by
  obtain ⟨p, _, _, _, hv, _⟩ := k
  exact ⟨p, hv⟩
set_option maxRecDepth 100000 in
theorem treeScan_c {c : Int} {Z : Nat → Prop} {w0 : World} {tr : Nat} {T : Tre} {cw : Value} {s : Nat → Prop} (hM : TreeM c Z w0 tr T cw s) (base pb pd : Nat) (h0 : w0.heap.size ≤ pb) (h1 : w0.heap.size ≤ pd) (hT : (itT T).length ≤ 900000)
    (w : World) (hC : Coll w base pb pd []) (hx : Mix.Ex w0 w) :
    Calls Try.prog 55 #[.pointer (some ⟨tr, 0, none⟩), .func (.func 56) #[] #[.pointer (some ⟨pb, 0, none⟩), .pointer (some ⟨pd, 0, none⟩)]] w fun e w' => e = .returned (.tuple #[]) ∧ Coll w' base pb pd (itT T) ∧ Mix.Ex w0 w' := by
  obtain ⟨rt, hTr, hR⟩ := hM.at_
  have hTw := hTr.ex hx
  unfold TreeAt at hTw
  have h6 : w.cell? ⟨tr, 6, none⟩ = some rt := by rw [cellOf hTw]; rfl
  clear hTw hTr
  obtain ⟨cnt, rc, root⟩ := T
  dsimp only at hR
  cases root with
  | none =>
    obtain ⟨rfl, -⟩ := hR
    have hi : itT ⟨cnt, rc, none⟩ = [] := rfl
    rw [hi]
    go_enter Try.func55, Try.ntmps55
    go_wp2_with fail
    go_end0
    exact ⟨rfl, hC, hx⟩
  | some q =>
    obtain ⟨h, t⟩ := q
    have hi : itT ⟨cnt, rc, some ⟨h, t⟩⟩ = itsN h t := rfl
    rw [hi] at hT ⊢
    have hE : ElAt c Z w0 (h + 1) rt t s := hR
    have hS := scan_c c Z w0 base pb pd h0 h1 h rt t s hE w [] hC hx (by simpa using hT)
    rw [List.nil_append] at hS
    obtain ⟨p, rfl⟩ := hE.ptr
    have HS := Lib.hid hS
    clear hS hE hR hM
    go_enter Try.func55, Try.ntmps55
    go_wp2_with fail
    refine HS.out.mono ?_
    rintro e w2 ⟨rfl, hC2, hx2⟩
    go_wp2_with fail
    go_end0
    exact ⟨rfl, hC2, hx2⟩
set_option maxRecDepth 100000 in
set_option maxHeartbeats 1600000 in
theorem zzScan_c {c : Int} {Z : Nat → Prop} {w : World} {tr : Nat} {T : Tre} {cw : Value} {s : Nat → Prop} (hM : TreeM c Z w tr T cw s) (hT : (itT T).length ≤ 900000) :
    Calls Try.prog 40 #[.pointer (some ⟨tr, 0, none⟩)] w fun e w' => ∃ vb vd, e = .returned (.tuple #[vb, vd]) ∧ w'.Row w.heap.size 71 4 bI vb (itT T) ∧ w'.Row w.heap.size 3 1 dI vd (itT T) ∧ Mix.Ex w w' := by
  go_enter Try.func40, Try.ntmps40
  go_upto_region 1 with (fail)
  have hxa := ((Mix.Ex.refl w).alloc (.cells #[.slice none 0 0] 68)).alloc (.cells #[.slice none 0 0] 43)
  have n5 := ((Mix.Ex.refl (w.alloc (.cells #[.slice none 0 0] 68))).alloc (.cells #[.slice none 0 0] 43)).obj (heap_alloc_new w (.cells #[.slice none 0 0] 68))
  have n6 := heap_alloc_new (w.alloc (.cells #[.slice none 0 0] 68)) (.cells #[.slice none 0 0] 43)
  rw [World.size_alloc] at n6
  change Code.wp _ _ _ _ ((w.alloc (.cells #[.slice none 0 0] 68)).alloc (.cells #[.slice none 0 0] 43))
  have hsz : ((w.alloc (.cells #[.slice none 0 0] 68)).alloc (.cells #[.slice none 0 0] 43)).heap.size = w.heap.size + 2 := by simp
  generalize ((w.alloc (.cells #[.slice none 0 0] 68)).alloc (.cells #[.slice none 0 0] 43)) = w1 at hxa n5 n6 hsz ⊢
  obtain ⟨B5, hB5⟩ : ∃ B5, w.heap.size = B5 := ⟨_, rfl⟩
  obtain ⟨B6, hB6⟩ : ∃ B6, w.heap.size + 1 = B6 := ⟨_, rfl⟩
  rw [hB6] at n6 ⊢
  rw [hB5] at n5 ⊢
  have hC : Coll w1 (B5 + 2) B5 B6 [] := ⟨by omega, by omega, by omega, by omega, _, _, n5, n6, .nil bI_len, .nil dI_len⟩
  have hS := treeScan_c hM (B5 + 2) B5 B6 (by omega) (by omega) hT w1 hC hxa
  clear n5 n6 hC hxa hsz
  have hmf : ∀ (fn : Fn) (first cap : Array Value) (w : World), (Instr.makeFunc fn first cap).run Try.prog w = .ok (.func fn first cap) w := fun _ _ _ _ => rfl
  go_wp2_with fail
  refine hS.mono ?_
  rintro e w2 ⟨rfl, hC2, hx2⟩
  obtain ⟨hne, lb, ld, hbs, vb, vd, hvb, hvd, hrb, hrd⟩ := hC2
  obtain ⟨ob, cb, rfl, -⟩ := hrb.slice
  obtain ⟨od, cd, rfl, -⟩ := hrd.slice
  obtain ⟨nn, hnn⟩ : ∃ nn, (itT T).length = nn := ⟨_, rfl⟩
  rw [hnn] at hvb hvd hrb hrd
  have HRB := Lib.hid hrb
  have HRD := Lib.hid hrd
  have HX2 := Lib.hid hx2
  clear hS hrb hrd hx2
  go_upto_region 2 with (fail)
  have a0 : (w2.drewN 1).cell? ⟨B5, 0, none⟩ = some (.slice ob nn cb) := by show w2.cell? _ = _; rw [cellOf hvb]; rfl
  have a1 : (w2.drewN 1).cell? ⟨B6, 0, none⟩ = some (.slice od nn cd) := by show w2.cell? _ = _; rw [cellOf hvd]; rfl
  have f0 : (w2.drewN 1).frozen? ⟨B5, 0, none⟩ = false := frzOf (w := w2) hvb 0
  have f1 : (w2.drewN 1).frozen? ⟨B6, 0, none⟩ = false := frzOf (w := w2) hvd 0
  have HC := And.intro a0 a1
  have s0 := World.setCell_self a0
  have s1 := World.setCell_self a1
  refine wp_region_K (fun W => W.cell? ⟨B5, 0, none⟩ = some (.slice ob nn cb) ∧ W.cell? ⟨B6, 0, none⟩ = some (.slice od nn cd)) 3 (by kernel_rfl) ?_
  change wpAnyK _ _ _ _ _ 4 (Array.replicate 4 false) _ _
  (refine wpAnyK_take (i := 0) (oi := ?_) (v := ?_) ?_ ?_ ?_ ?_ ?_ ?_ ?_ ?_ ?_; rotate_left 2; (focus (simp only [List.getElem?_toArray, List.getElem?_cons_zero, List.getElem?_cons_succ]; rfl)); (focus kernel_rfl); (focus kernel_rfl); (focus kernel_rfl); (focus kernel_rfl); (focus exact fun _ _ _ h => h); (focus (refine Or.inl ⟨by rfl, ?_⟩; intro W hW; (try dsimp only at hW); go_simp; try with_reducible rfl)); (focus exact HC); (try simp only [Act.put, List.setIfInBounds_toArray, List.set_cons_zero, List.set_cons_succ]))
  (refine wpAnyK_take (i := 1) (oi := ?_) (v := ?_) ?_ ?_ ?_ ?_ ?_ ?_ ?_ ?_ ?_; rotate_left 2; (focus (simp only [List.getElem?_toArray, List.getElem?_cons_zero, List.getElem?_cons_succ]; rfl)); (focus kernel_rfl); (focus kernel_rfl); (focus kernel_rfl); (focus kernel_rfl); (focus exact fun _ _ _ h => h); (focus (refine Or.inl ⟨by rfl, ?_⟩; intro W hW; (try dsimp only at hW); go_simp; try with_reducible rfl)); (focus exact HC); (try simp only [Act.put, List.setIfInBounds_toArray, List.set_cons_zero, List.set_cons_succ]))
  have HX3 := Lib.hid (HX2.out.drewN 1)
  have HRB3 := Lib.hid (HRB.out.ex ((Mix.Ex.refl w2).drewN 1))
  have HRD3 := Lib.hid (HRD.out.ex ((Mix.Ex.refl w2).drewN 1))
  generalize w2.drewN 1 = w3 at HC a0 a1 f0 f1 s0 s1 HX3 HRB3 HRD3 ⊢
  (refine wpAnyK_one (i := 2) (o := ?_) ?_ ?_ ?_ (fun K hK => ?_); rotate_left 1; (focus kernel_rfl); (focus (simp only [List.getElem?_toArray, List.getElem?_cons_zero, List.getElem?_cons_succ]; rfl)); (focus rfl))
  go_simp
  refine hK _ _ (fun _ => HC) ?_
  clear hK K
  (refine wpAnyK_one (i := 3) (o := ?_) ?_ ?_ ?_ (fun K hK => ?_); rotate_left 1; (focus kernel_rfl); (focus (simp only [List.getElem?_toArray, List.getElem?_cons_zero, List.getElem?_cons_succ]; rfl)); (focus rfl))
  go_simp
  refine hK _ _ (fun _ => HC) ?_
  clear hK K
  refine wpAnyK_done (by kernel_rfl) ?_ _
  clear HC s0 s1 f0 f1
  go_wp2_with fail
  refine bodyPost_ret (v := .tuple #[.slice ob nn cb, .slice od nn cd]) (by simp [results, Try.results40, go_sem, a0, a1]) rfl ⟨_, _, rfl, HRB3.out.mono (by omega), HRD3.out.mono (by omega), HX3.out⟩
end Go.Proofs.Ytboeldlilkeihaa
