/- The contract of 'nodeInsert' at a leaf. -/
import Derived.Test.YtboeldlilkeihaaCow
import Derived.Test.YtboeldlilkeihaaOrd
import Derived.Test.YtboeldlilkeihaaSplit
import Derived.Test.YtboeldlilkeihaaRect
set_option linter.unusedSimpArgs false
set_option linter.unusedVariables false
namespace Go
open Go.RowKit Go.Bx
theorem NodeAt.opn3 {w : World} {p q : Nat} {N : Nd} {T : TypeId} {f : Nat → Value} (h : NodeAt w p N) (k : ListAt w q T f) : ∃ w0 : World, w = (w0.putN p N).putL q T f ∧ p < w0.heap.size ∧ q < w0.heap.size ∧ (∀ x, w0.cell? x = w.cell? x) ∧ (∀ x, w0.frozen? x = w.frozen? x) ∧ w0 = w :=
  ⟨w, by rw [h.self, k.self], h.lt, k.lt, fun _ => rfl, fun _ => rfl, rfl⟩
end Go
namespace Go.Proofs.Ytboeldlilkeihaa
open Go.RowKit Go.Bx
theorem copyR_at {W : World} {p : Nat} {ic : Int} {b : Bool} {c : Int} {q : Nat} {rc : Nat → R} (hN : NodeAt W p ⟨ic, b, c, q, rc⟩) (ty : TypeId) (d dl dc s sl sc k : Nat) (hk : Nat.min sl dl = k) (hd : d + k ≤ 64) (hs : s + k ≤ 64) :
    ∀ m, (Builtin.copy_ #[129, 129] ty #[.slice (some ⟨p, 3 + d * 4, none⟩) dl dc, .slice (some ⟨p, 3 + s * 4, none⟩) sl sc]).run Try.prog (W.drewN m) = .ok (goInt k) ((W.putN p ⟨ic, b, c, q, mv2 rc rc d s k⟩).drewN m) := fun m => by
  have h := copyR_run (W.drewN m) p ⟨ic, b, c, q, rc⟩ ty d dl dc s sl sc k hN.lt hk hd hs
  rw [(hN.drewN m).self] at h
  exact h
theorem copyL_at {W : World} {q : Nat} {b : Bool} {f : Nat → Value} (hL : ListAt W q (elT b) f) (hf : Fit b f) (ty : TypeId) (d dl dc s sl sc k : Nat) (hk : Nat.min sl dl = k) (hd : d + k ≤ 64) (hs : s + k ≤ 64) :
    ∀ m, (Builtin.copy_ #[slT b, slT b] ty #[.slice (some ⟨q, d, none⟩) dl dc, .slice (some ⟨q, s, none⟩) sl sc]).run Try.prog (W.drewN m) = .ok (goInt k) ((W.putL q (elT b) (mv2 f f d s k)).drewN m) := fun m => by
  have h := copyL_run (W.drewN m) b q q (elT b) f f ty d dl dc s sl sc k hL.lt hk hd hs (fun i => hf.one i) (fun j hj => by rw [(hL.drewN m).self]; exact hL.cell hj)
  rw [(hL.drewN m).self] at h
  exact h
/-- A slice that begins at the array's end keeps the array's address: then nothing is copied. -/
theorem slot_end (p q i1 i k : Nat) (h : i1 + k ≤ 64) (h' : i1 ≤ 64) : ∃ d, (if 64 = i1 then (⟨p, 3, none⟩ : Addr) else ⟨p, 3 + i1 * 4, none⟩) = ⟨p, 3 + d * 4, none⟩ ∧ (if 64 = i1 then some (⟨q, 0, none⟩ : Addr) else some ⟨q, i1, none⟩) = some ⟨q, d, none⟩ ∧ d + k ≤ 64 ∧ ∀ {α : Type} (f : Nat → α), mv2 f f d i k = mv2 f f i1 i k := by
  by_cases e : 64 = i1
  · refine ⟨0, by rw [if_pos e], by rw [if_pos e], by omega, fun f => ?_⟩
    have : k = 0 := by omega
    subst this
    funext j
    unfold mv2
    rw [if_neg (by omega), if_neg (by omega)]
  · exact ⟨i1, by rw [if_neg e], by rw [if_neg e], h, fun _ => rfl⟩
end Go.Proofs.Ytboeldlilkeihaa
namespace Go
open Go.RowKit Go.Bx Go.Proofs.Ytboeldlilkeihaa
theorem Chg.rect {S : Nat → Prop} {a b : World} (h : Chg S a b) {k o : Nat} {r : R} (hr : RectAt a k o r) (hk : ¬ S k) : RectAt b k o r := by
  obtain ⟨h0, h1, h2, h3⟩ := hr
  exact ⟨h.cell h0 hk, h.cell h1 hk, h.cell h2 hk, h.cell h3 hk⟩
end Go
namespace Go.Proofs.Ytboeldlilkeihaa
open Go.RowKit Go.Bx
/-- What 'nodeInsert' leaves behind. -/
def InsPost (c : Int) (Z : Nat → Prop) (w : World) (h p q : Nat) (s : Nat → Prop) (y : Bool × Bool × Nde (El h)) (e : Ending) (w' : World) : Prop :=
  e = .returned (.tuple #[.bool y.1, .bool y.2.1]) ∧ ∃ (ic : Int) (X : Nat → R × An h) (s' : Nat → Prop), OwnN c Z w' h p q ic y.2.2 X s' ∧ Grew w s s' ∧ Chg s w w'
theorem Fit.mv {b : Bool} {f : Nat → Value} (h : Fit b f) (d s k : Nat) : Fit b (mv2 f f d s k) := by
  cases b
  · obtain ⟨g, rfl⟩ := h; exact ⟨mv2 g g d s k, by funext i; simp only [mv2]; split <;> rfl⟩
  · obtain ⟨g, rfl⟩ := h; exact ⟨mv2 g g d s k, by funext i; simp only [mv2]; split <;> rfl⟩
theorem fE_shiftR (E : Ent) (i n : Nat) : fE (shiftR E i n) = shiftR (fE E) i n := by funext k; simp only [fE, shiftR]; split <;> rfl
theorem fst_shiftR (E : Ent) (i n : Nat) : (fun k => (shiftR E i n k).1) = shiftR (fun k => (E k).1) i n := by funext k; simp only [shiftR]; split <;> rfl
theorem fE_upd (E : Ent) (i : Nat) (e : R × Value) : fE (Bx.upd E i e) = Bx.upd (fE E) i e.2 := by funext k; simp only [fE, Bx.upd]; split <;> rfl
theorem fst_upd {α : Type} (E : Nat → R × α) (i : Nat) (e : R × α) : (fun k => (Bx.upd E i e k).1) = Bx.upd (fun k => (E k).1) i e.1 := by funext k; simp only [Bx.upd]; split <;> rfl
set_option maxRecDepth 100000 in
set_option maxHeartbeats 6400000 in
theorem insLeaf_full (w : World) (t p q rb ro b o : Nat) (ic : Int) (E : Ent) (x : Int) (hN : NodeAt w p ⟨ic, true, (64 : Nat), q, fun i => (E i).1⟩) :
    Calls Try.prog 81 #[.pointer (some ⟨t, 0, none⟩), .pointer (some ⟨rb, ro, none⟩), .pointer (some ⟨p, 0, none⟩), .pointer (some ⟨b, o, none⟩), .int .i64 x] w fun e w' =>
      e = .returned (.tuple #[.bool true, .bool false]) ∧ ∃ d, w' = w.drewN d := by
  have hc := hN.cell2
  dsimp only at hc
  have e64 : (((64 : Nat) : Int) == 64) = true := rfl
  go_enter Try.func81, Try.ntmps81
  go_wp2_with fail
  refine (leaf_c _ _ _ hN).mono ?_
  rintro e w1 ⟨rfl, rfl⟩
  go_wp2_with fail
  go_ret2
  exact ⟨rfl, 0, rfl⟩
set_option maxRecDepth 100000 in
set_option maxHeartbeats 6400000 in
theorem insLeaf_put (w : World) (t p q rb ro b o : Nat) (ic : Int) (nn : Nat) (E : Ent) (r s : R) (x : Int) (hN : NodeAt w p ⟨ic, true, nn, q, fun i => (E i).1⟩) (hL : ListAt w q (elT true) (fE E)) (hf : Fit true (fE E)) (hpq : p ≠ q) (h64 : nn ≤ 64)
    (hr : RectAt w rb ro r) (hs : RectAt w b o s) (h1 : rb ≠ p) (h2 : rb ≠ q) (h3 : b ≠ p) (h4 : b ≠ q) (hn : nn ≠ 64) :
    Calls Try.prog 81 #[.pointer (some ⟨t, 0, none⟩), .pointer (some ⟨rb, ro, none⟩), .pointer (some ⟨p, 0, none⟩), .pointer (some ⟨b, o, none⟩), .int .i64 x] w fun e w' =>
      e = .returned (.tuple #[.bool false, .bool (!r.contains s)]) ∧ NodeAt w' p ⟨ic, true, (nn + 1 : Nat), q, fun i => (Bx.upd (shiftR E (rsr E s.x0 nn nn 0) nn) (rsr E s.x0 nn nn 0) (s, .int .i64 x) i).1⟩ ∧
        ListAt w' q (elT true) (fE (Bx.upd (shiftR E (rsr E s.x0 nn nn 0) nn) (rsr E s.x0 nn nn 0) (s, .int .i64 x))) ∧ Chg (fun k => k = p ∨ k = q) w w' := by
  have hc := hN.cell2
  dsimp only at hc
  have en : ((nn : Int) == 64) = false := by simp; omega
  obtain ⟨i, hi⟩ : ∃ i, rsr E s.x0 nn nn 0 = i := ⟨_, rfl⟩
  have hin : i ≤ nn := by rw [← hi]; exact rsr_le E s.x0 nn nn 0 (by omega)
  have hRS := rsearch_c w p ic true q E nn s.x0 hN h64
  rw [hi] at hRS ⊢
  clear hi
  obtain ⟨i1, hi1⟩ : ∃ i1, i + 1 = i1 := ⟨_, rfl⟩
  obtain ⟨n1, hn1⟩ : ∃ n1, nn + 1 = n1 := ⟨_, rfl⟩
  have j1 : (i : Int) + 1 = i1 := by omega
  have j2 : (nn : Int) + 1 = n1 := by omega
  have b0 : (0 : Int) ≤ i := by omega
  have b1 : (i : Int) ≤ nn := by omega
  have b2 : (nn : Int) ≤ 64 := by omega
  have b3 : (i1 : Int) ≤ n1 := by omega
  have b4 : (n1 : Int) ≤ 64 := by omega
  have b5 : i < 64 := by omega
  have hk : Nat.min (nn - i) (n1 - i1) = nn - i := by rw [show n1 - i1 = nn - i by omega]; exact Nat.min_self _
  obtain ⟨d', a1, a2, d1, mv⟩ := slot_end p q i1 i (nn - i) (by omega) (by omega)
  have d2 : i + (nn - i) ≤ 64 := by omega
  have HI1 := Lib.hid hi1
  have MV := Lib.hid (mv (fun i => (E i).1))
  have MW := Lib.hid (mv (fE E))
  clear mv
  have HN1 := Lib.hid hn1
  obtain ⟨m0, m1, m2, m3⟩ := id hs
  rw [hn1]
  clear hi1 hn1
  go_enter Try.func81, Try.ntmps81
  go_wp2_with fail
  refine (leaf_c _ _ _ hN).mono ?_
  rintro e w1 ⟨rfl, rfl⟩
  go_wp2_with fail
  refine (items_c _ _ _ hN rfl).mono ?_
  rintro e w2 ⟨rfl, rfl⟩
  go_wp2_with fail
  refine hRS.mono ?_
  rintro e w3 ⟨rfl, dd, rfl⟩
  clear hRS
  go_wp2_with fail
  (refine Mix.wp_region_drw 22 [0] (by kernel_rfl) (by kernel_rfl) ?_; simp only [List.take_succ_cons, List.take_zero, List.drop_succ_cons, List.drop_zero]; (repeat (go_big_quiet_step (fail))); refine wpQuiet_nil ?_)
  refine Mix.wpTl_copy (.tmp 54) (.tmp 64) 129 129 rfl (.slice (some ⟨p, 3 + d' * 4, none⟩) (n1 - i1) (64 - i1)) (.slice (some ⟨p, 3 + i * 4, none⟩) (nn - i) (64 - i)) _ _ rfl rfl (copyR_at hN _ d' _ _ i _ _ (nn - i) hk d1 d2) trivial ?_
  (simp only [Act.put, List.setIfInBounds_toArray, List.set_cons_zero, List.set_cons_succ, List.take_succ_cons, List.take_zero, List.drop_succ_cons, List.drop_zero])
  (refine wpQuiet_nil ?_; intro nq)
  rw [MV.out]
  -- the boxes have gone up
  have hN1 : NodeAt (w2.putN p ⟨ic, true, nn, q, mv2 (fun i => (E i).1) (fun i => (E i).1) i1 i (nn - i)⟩) p ⟨ic, true, nn, q, mv2 (fun i => (E i).1) (fun i => (E i).1) i1 i (nn - i)⟩ := NodeAt.put _ hN.lt
  have hL1 : ListAt (w2.putN p ⟨ic, true, nn, q, mv2 (fun i => (E i).1) (fun i => (E i).1) i1 i (nn - i)⟩) q (elT true) (fE E) := hL.putN_other hpq
  have hC1 : Chg (fun k => k = p ∨ k = q) w2 (w2.putN p ⟨ic, true, nn, q, mv2 (fun i => (E i).1) (fun i => (E i).1) i1 i (nn - i)⟩) := (Chg.refl _ _).putN (.inl (.inl rfl)) _
  have hr1 := hr
  clear hN hL hc
  generalize (w2.putN p ⟨ic, true, nn, q, mv2 (fun i => (E i).1) (fun i => (E i).1) i1 i (nn - i)⟩) = w1 at hN1 hL1 hC1 ⊢
  have hc := hN1.cell2
  dsimp only at hc
  go_wp2_with fail
  (refine Mix.wp_region_drw 18 [0] (by kernel_rfl) (by kernel_rfl) ?_; simp only [List.take_succ_cons, List.take_zero, List.drop_succ_cons, List.drop_zero]; (repeat (go_big_quiet_step (fail))); refine wpQuiet_nil ?_)
  (try simp only [World.drewN_drewN])
  refine Mix.wpTl_copy (.tmp 75) (.tmp 83) 43 43 rfl (.slice (some ⟨q, d', none⟩) (n1 - i1) (64 - i1)) (.slice (some ⟨q, i, none⟩) (nn - i) (64 - i)) _ _ rfl rfl (copyL_at (b := true) hL1 hf _ d' _ _ i _ _ (nn - i) hk d1 d2) trivial ?_
  (simp only [Act.put, List.setIfInBounds_toArray, List.set_cons_zero, List.set_cons_succ, List.take_succ_cons, List.take_zero, List.drop_succ_cons, List.drop_zero])
  (refine wpQuiet_nil ?_; intro nq)
  rw [MW.out]
  have hN2 : NodeAt (w1.putL q (elT true) (mv2 (fE E) (fE E) i1 i (nn - i))) p _ := hN1.putL_other hpq.symm
  have hL2 : ListAt (w1.putL q (elT true) (mv2 (fE E) (fE E) i1 i (nn - i))) q (elT true) (mv2 (fE E) (fE E) i1 i (nn - i)) := ListAt.put _ _ hL1.lt
  have hC2 : Chg (fun k => k = p ∨ k = q) w2 (w1.putL q (elT true) (mv2 (fE E) (fE E) i1 i (nn - i))) := hC1.putL (.inl (.inr rfl)) _ _
  clear hN1 hL1 hc
  generalize (w1.putL q (elT true) (mv2 (fE E) (fE E) i1 i (nn - i))) = w3 at hN2 hL2 hC2 ⊢
  generalize hg1 : mv2 (fun i => (E i).1) (fun i => (E i).1) i1 i (nn - i) = rc at *
  generalize hg2 : mv2 (fE E) (fE E) i1 i (nn - i) = f at *
  have HG1 := Lib.hid hg1
  have HG2 := Lib.hid hg2
  have hs3 : RectAt w3 b o s := hC2.rect hs (by simp; omega)
  have hr3 : RectAt w3 rb ro r := hC2.rect hr (by simp; omega)
  clear hg1 hg2 m0 m1 m2 m3 MV MW
  obtain ⟨w4, rfl, hp4, hq4, hcl, -, -⟩ := hN2.opn3 hL2
  obtain ⟨k0, k1, k2, k3⟩ : RectAt w4 b o s := by
    unfold RectAt at hs3 ⊢
    simp only [hcl]; exact hs3
  clear hcl
  have hqp := hpq.symm
  have HN2 := Lib.hid hN2
  have HC2 := Lib.hid hC2
  clear hN2 hL2 hC2 hs3 hr3
  go_wp2_with fail
  (refine Mix.wp_region_drw 8 [0] (by kernel_rfl) (by kernel_rfl) ?_; simp only [List.take_succ_cons, List.take_zero, List.drop_succ_cons, List.drop_zero]; (repeat (go_big_quiet_step (fail))); refine wpQuiet_nil ?_)
  (refine Mix.wpTl_dr (fun n K hK => ?_); go_simp; refine ⟨_, ⟨_, rfl⟩, hK _ _ trivial ?_⟩; clear hK K; simp only [Act.put, List.take_succ_cons, List.take_zero, List.drop_succ_cons, List.drop_zero])
  (refine wpQuiet_nil ?_; intro nq)
  rw [setR_mk]
  go_wp2_with fail
  (try rw [setCnt_mk])
  have e5 : (((w4.putN p ⟨ic, true, (nn : Nat), q, rc⟩).putL q (elT true) f).putN p ⟨ic, true, (n1 : Nat), q, Bx.upd rc i s⟩).putL q (elT true) (Bx.upd f i (.int .i64 x)) = (w4.putN p ⟨ic, true, (n1 : Nat), q, Bx.upd rc i s⟩).putL q (elT true) (Bx.upd f i (.int .i64 x)) := by
    rw [World.putN_putL _ _ _ _ _ _ hqp, World.putN_putN, World.putL_putL]
  have hC5 := ((HC2.out).putN (p := p) (.inl (.inl rfl)) ⟨ic, true, (n1 : Nat), q, Bx.upd rc i s⟩).putL (q := q) (.inl (.inr rfl)) (elT true) (Bx.upd f i (.int .i64 x))
  rw [e5] at hC5
  have hN5 : NodeAt ((w4.putN p ⟨ic, true, (n1 : Nat), q, Bx.upd rc i s⟩).putL q (elT true) (Bx.upd f i (.int .i64 x))) p ⟨ic, true, (n1 : Nat), q, Bx.upd rc i s⟩ := (NodeAt.put _ hp4).putL_other hqp
  have hL5 : ListAt ((w4.putN p ⟨ic, true, (n1 : Nat), q, Bx.upd rc i s⟩).putL q (elT true) (Bx.upd f i (.int .i64 x))) q (elT true) (Bx.upd f i (.int .i64 x)) := ListAt.put _ _ (by simp; exact hq4)
  clear e5 HN2 HC2 k0 k1 k2 k3
  generalize ((w4.putN p ⟨ic, true, (n1 : Nat), q, Bx.upd rc i s⟩).putL q (elT true) (Bx.upd f i (.int .i64 x))) = w5 at hC5 hN5 hL5 ⊢
  refine (contains_c _ rb ro b o r s ((hC5.rect hr (by simp; omega)).of_dr _) ((hC5.rect hs (by simp; omega)).of_dr _)).mono ?_
  rintro e w6 ⟨rfl, d6, rfl⟩
  go_wp2_with fail
  go_ret2
  refine ⟨rfl, ?_, ?_, hC5.drewN _⟩
  · rw [fst_upd, fst_shiftR, ← mv2_up, HI1.out, HG1.out]
    exact hN5.drewN _
  · rw [fE_upd, fE_shiftR, ← mv2_up, HI1.out, HG2.out]
    exact hL5.drewN _
end Go.Proofs.Ytboeldlilkeihaa
