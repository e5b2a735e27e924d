/- The contract of 'splitNode'. -/
import Derived.Test.YtenokcfpmfoekaaSplit
set_option linter.unusedSimpArgs false
set_option linter.unusedVariables false
namespace Go.Proofs.Ytenokcfpmfoekaa
open Go.RowKit Go.Bx
theorem SplitPost.of_ex {w w0 w' : World} {p q : Nat} {ic icL : Int} {b : Bool} {r : R} {n : Nat} {E : Ent} {e : Ending} (hx : Mix.Ex w w0) (h : SplitPost w0 p q ic icL b r n E e w') : SplitPost w p q ic icL b r n E e w' := by
  obtain ⟨p', q', h1, h2, h3, h4, h5, h6, h7, h8, h9, h10, h11⟩ := h
  have := hx.below.size
  exact ⟨p', q', h1, by omega, by omega, h4, h5, h6, h7, h8, h9, h10, (Chg.ex hx).trans h11⟩
set_option maxRecDepth 100000 in
set_option maxHeartbeats 800000 in
theorem split_c (w : World) (t p q : Nat) (ic icL : Int) (b : Bool) (n : Nat) (E : Ent) (r : R) (ht0 : w.cell? ⟨t, 0, none⟩ = some (.int .u64 ic)) (ht7 : w.cell? ⟨t, 7, none⟩ = some (.int .i64 0))
    (hN : NodeAt w p ⟨icL, b, n, q, fun i => (E i).1⟩) (hL : ListAt w q (elT b) (fE E)) (hf : Fit b (fE E)) (hpq : p ≠ q) (htp : t ≠ p) (htq : t ≠ q) (h2 : 2 ≤ n) (h64 : n ≤ 64) (hr : r.small) (hs : ∀ i, i < n → (E i).1.small) :
    Calls Try.prog 63 #[.pointer (some ⟨t, 0, none⟩), .agg #[.int .i64 r.x0, .int .i64 r.y0, .int .i64 r.x1, .int .i64 r.y1], .pointer (some ⟨p, 0, none⟩)] w fun e w' => SplitPost w p q ic icL b r n E e w' := by
  have hx := (Mix.Ex.refl w).alloc (.cells (boxV r).toArray 67)
  have hS := splitSnap_c _ t p q ic icL b n E r (hx.cell ht0) (hx.cell ht7) (hN.ex hx) (hL.ex hx) hf hpq htp htq h2 h64 hr hs
  go_enter Try.func63, Try.ntmps63
  go_wp2_with fail
  refine (hS.mono ?_ : Calls _ _ _ (w.alloc (.cells (boxV r).toArray 67)) _)
  rintro e w1 hP
  have hP := hP.of_ex hx
  have hP' := hP
  obtain ⟨p', q', rfl, _⟩ := hP'
  clear hS hN hL
  have HP := Lib.hid hP
  clear hP
  go_wp2_with fail
  go_ret
  exact HP.out
end Go.Proofs.Ytenokcfpmfoekaa
