/- The contracts of Insert, Delete, Replace and Clear on a tree in form. -/
import Derived.Test.YtboeldlilkeihaaDelT
import Derived.Test.YtboeldlilkeihaaInsB
import Derived.Test.YtboeldlilkeihaaPln
set_option linter.unusedSimpArgs false
set_option linter.unusedVariables false
/- The contracts of 'Insert', 'Delete', 'Replace', 'Clear' at a tree in form. -/
namespace Go.Proofs.Ytboeldlilkeihaa
open Go.RowKit Go.Bx
/-- What a step leaves: the tree T'. -/
def StepPost (c : Int) (Z : Nat → Prop) (w : World) (tr : Nat) (s : Nat → Prop) (cw : Value) (T' : Tre) (e : Ending) (w' : World) : Prop :=
  e = .returned (.tuple #[]) ∧ ∃ s' : Nat → Prop, TreeM c Z w' tr T' cw s' ∧ Grew w s s' ∧ Chg (fun b => b = tr ∨ s b) w w'
theorem TreeM.ex {c : Int} {Z : Nat → Prop} {w w' : World} {p : Nat} {T : Tre} {cw : Value} {s : Nat → Prop} (h : TreeM c Z w p T cw s) (hx : Mix.Ex w w') : TreeM c Z w' p T cw s := h.frame (S := fun _ => False) (Chg.ex hx) (fun _ h => h.elim) (fun _ h => h.elim) (fun h => h)
theorem StepPost.of_ex {c : Int} {Z : Nat → Prop} {w w1 w' : World} {tr : Nat} {s : Nat → Prop} {cw : Value} {T' : Tre} {e : Ending} (hx : Mix.Ex w w1) (h : StepPost c Z w1 tr s cw T' e w') : StepPost c Z w tr s cw T' e w' := by
  obtain ⟨h1, s', h2, h3, h4⟩ := h
  have := hx.below.size
  exact ⟨h1, s', h2, fun b hb => by rcases h3 b hb with h | h; exact .inl h; exact .inr (by omega), (Chg.ex hx).trans h4⟩
theorem step_insert (c : Int) (Z : Nat → Prop) (tr : Nat) (cw : Value) (sR : R) (x : Int) (hsR : sR.small ∧ sR.ok) (T : Tre) (w : World) (s : Nat → Prop) (hM : TreeM c Z w tr T cw s) (hF : Fine T 1000000) :
    Calls Try.prog 64 #[.pointer (some ⟨tr, 0, none⟩), .agg #[.int .i64 sR.x0, .int .i64 sR.y0], .agg #[.int .i64 sR.x1, .int .i64 sR.y1], .int .i64 x] w fun e w' => StepPost c Z w tr s cw (Bx.putT sR x T) e w' := by
  obtain ⟨h1, h2, h3⟩ := putT_spec x hsR hF.ok
  have hR : RootIn sR T := by
    have := hF.ok
    unfold TreOk at this
    unfold RootIn
    cases hr : T.root with
    | none => trivial
    | some q => rw [hr] at this; exact ⟨this.1.2.2, .inr this.1⟩
  have hc := hF.ok.cnt
  have hc2 := hF.cnt
  refine (insert_c c Z tr cw sR x hsR (fun b o h => ins_c c Z tr sR x hsR b o h) (fuelOf T) T _ w s hM hR h1 (by rw [hc]; omega) (by omega)).mono ?_
  rintro e w' ⟨he, h, p, q, ic, t, X, s', hr, hT, hO, hG, hC⟩
  have hpl := hM.lt
  have hsl : ∀ b, s b → b < w.heap.size := fun b hb => hM.slt hb
  refine ⟨he, s', ⟨⟨_, hT, ?_⟩, fun h => ?_, hM.pZ, fun b hb hz => ?_, fun k hk => Nat.lt_of_lt_of_le (hM.zlt k hk) hC.size⟩, hG, hC⟩
  · rw [hr]; exact hO.toEl
  · rcases hG _ h with h | h
    · exact hM.ps h
    · omega
  · rcases hG _ hb with h | h
    · exact hM.sZ b h hz
    · have := hM.zlt b hz; omega
theorem delete_fine (c : Int) (Z : Nat → Prop) (tr : Nat) (cw : Value) (sR : R) (x : Int) (T : Tre) (w : World) (s : Nat → Prop) (hM : TreeM c Z w tr T cw s) (hF : Fine T 1000000) :
    Calls Try.prog 86 #[.pointer (some ⟨tr, 0, none⟩), .agg #[.int .i64 sR.x0, .int .i64 sR.y0], .agg #[.int .i64 sR.x1, .int .i64 sR.y1], .int .i64 x] w fun e w' => DelTPost c Z w tr s cw (deleteT sR x T) e w' :=
  delete_c c Z tr cw sR x T w s hM hF.ok (by have := hF.hgt; unfold hgtLe; exact this) (by have := hF.cnt; omega)
theorem cells2 (w : World) (a b : Int) (T : TypeId) : (w.alloc (.cells #[.int .i64 a, .int .i64 b] T)).cell? ⟨w.heap.size, 0, none⟩ = some (.int .i64 a) ∧ (w.alloc (.cells #[.int .i64 a, .int .i64 b] T)).cell? ⟨w.heap.size, 1, none⟩ = some (.int .i64 b) :=
  ⟨cell_of_cells (heap_alloc_new w _) 0, cell_of_cells (heap_alloc_new w _) 1⟩
set_option maxRecDepth 100000 in
theorem step_delete (c : Int) (Z : Nat → Prop) (tr : Nat) (cw : Value) (sR : R) (x : Int) (T : Tre) (w : World) (s : Nat → Prop) (hM : TreeM c Z w tr T cw s) (hF : Fine T 1000000) :
    Calls Try.prog 65 #[.pointer (some ⟨tr, 0, none⟩), .agg #[.int .i64 sR.x0, .int .i64 sR.y0], .agg #[.int .i64 sR.x1, .int .i64 sR.y1], .int .i64 x] w fun e w' => StepPost c Z w tr s cw (deleteT sR x T).2 e w' := by
  have hx := ((Mix.Ex.refl w).alloc (.cells #[.int .i64 sR.x0, .int .i64 sR.y0] 28)).alloc (.cells #[.int .i64 sR.x1, .int .i64 sR.y1] 28)
  have hD := delete_fine c Z tr cw sR x T _ s (hM.ex hx) hF
  have HX := Lib.hid hx
  clear hx hM
  go_enter Try.func65, Try.ntmps65
  go_wp2_with fail
  refine hD.mono ?_
  rintro e w1 ⟨rfl, s', h2, h3, h4⟩
  have HP := Lib.hid (StepPost.of_ex HX.out ⟨rfl, s', h2, h3, h4⟩)
  clear h2 h3 h4 hD
  go_wp2_with fail
  go_end0
  exact HP.out
set_option maxRecDepth 100000 in
theorem step_clear (c : Int) (Z : Nat → Prop) (tr : Nat) (cw : Value) (T : Tre) (w : World) (s : Nat → Prop) (hM : TreeM c Z w tr T cw s) :
    Calls Try.prog 67 #[.pointer (some ⟨tr, 0, none⟩)] w fun e w' => StepPost c Z w tr s cw tre0 e w' := by
  have HM := Lib.hid hM
  obtain ⟨⟨rt, hTA, hRt⟩, hps, hpZ, hsZ, hzlt⟩ := hM
  obtain ⟨w0, rfl, hl, -⟩ := hTA.opn
  have hc := (Chg.refl (fun b => b = tr) (w0.putT tr c T.cnt T.rect rt cw)).putT (p := tr) (c := c) (cnt := 0) (r := R0) (rt := .pointer none) (cw := cw) (.inl rfl)
  rw [World.putT_putT] at hc
  have HC := Lib.hid hc
  have HZ := Lib.hid hzlt
  clear hTA hRt hsZ hzlt hc
  go_enter Try.func67, Try.ntmps67
  go_wp2_with fail
  go_end0
  refine ⟨rfl, fun _ => False, ⟨⟨_, TreeAt.put _ _ _ _ _ hl, rfl, fun _ h => h⟩, fun h => h, hpZ, fun _ h => h.elim, fun k hk => ?_⟩, fun _ h => h.elim, HC.out.mono fun b hb => .inl hb⟩
  have h1 := HZ.out k hk
  rw [World.size_putT] at h1 ⊢
  exact h1
end Go.Proofs.Ytboeldlilkeihaa
/- The contract of 'Replace'; of 'grow'. -/
namespace Go.Proofs.Ytboeldlilkeihaa
open Go.RowKit Go.Bx
/-- Four corners, each in a block of its own. -/
theorem box4 (w : World) (a b c d e f g h : Int) : ∃ w1 b2 b3, ((((w.alloc (.cells #[.int .i64 a, .int .i64 b] 28)).alloc (.cells #[.int .i64 c, .int .i64 d] 28)).alloc (.cells #[.int .i64 e, .int .i64 f] 28)).alloc (.cells #[.int .i64 g, .int .i64 h] 28)) = w1 ∧
    w.heap.size + 1 + 1 = b2 ∧ w.heap.size + 1 + 1 + 1 = b3 ∧ Mix.Ex w w1 ∧ w1.heap.size = w.heap.size + 4 ∧ w1.cell? ⟨w.heap.size, 0, none⟩ = some (.int .i64 a) ∧ w1.cell? ⟨w.heap.size, 1, none⟩ = some (.int .i64 b) ∧ w1.cell? ⟨w.heap.size + 1, 0, none⟩ = some (.int .i64 c) ∧ w1.cell? ⟨w.heap.size + 1, 1, none⟩ = some (.int .i64 d) ∧ w1.cell? ⟨b2, 0, none⟩ = some (.int .i64 e) ∧ w1.cell? ⟨b2, 1, none⟩ = some (.int .i64 f) ∧ w1.cell? ⟨b3, 0, none⟩ = some (.int .i64 g) ∧ w1.cell? ⟨b3, 1, none⟩ = some (.int .i64 h) := by
  obtain ⟨wa, hwa⟩ : ∃ wa, w.alloc (.cells #[.int .i64 a, .int .i64 b] 28) = wa := ⟨_, rfl⟩
  obtain ⟨wb, hwb⟩ : ∃ wb, wa.alloc (.cells #[.int .i64 c, .int .i64 d] 28) = wb := ⟨_, rfl⟩
  obtain ⟨wc, hwc⟩ : ∃ wc, wb.alloc (.cells #[.int .i64 e, .int .i64 f] 28) = wc := ⟨_, rfl⟩
  obtain ⟨wd, hwd⟩ : ∃ wd, wc.alloc (.cells #[.int .i64 g, .int .i64 h] 28) = wd := ⟨_, rfl⟩
  have s1 : wa.heap.size = w.heap.size + 1 := by rw [← hwa]; simp
  have s2 : wb.heap.size = w.heap.size + 1 + 1 := by rw [← hwb]; simp [s1]
  have s3 : wc.heap.size = w.heap.size + 1 + 1 + 1 := by rw [← hwc]; simp [s2]
  have s4 : wd.heap.size = w.heap.size + 4 := by rw [← hwd]; simp [s3]
  obtain ⟨k0, k1⟩ := cells2 w a b 28
  obtain ⟨k2, k3⟩ := cells2 wa c d 28
  obtain ⟨k4, k5⟩ := cells2 wb e f 28
  obtain ⟨k6, k7⟩ := cells2 wc g h 28
  have x1 := (Mix.Ex.refl w).alloc (.cells #[.int .i64 a, .int .i64 b] 28)
  have x2 := (Mix.Ex.refl wa).alloc (.cells #[.int .i64 c, .int .i64 d] 28)
  have x3 := (Mix.Ex.refl wb).alloc (.cells #[.int .i64 e, .int .i64 f] 28)
  have x4 := (Mix.Ex.refl wc).alloc (.cells #[.int .i64 g, .int .i64 h] 28)
  rw [hwa] at k0 k1 x1
  rw [hwb, s1] at k2 k3
  rw [hwb] at x2
  rw [hwc, s2] at k4 k5
  rw [hwc] at x3
  rw [hwd, s3] at k6 k7
  rw [hwd] at x4
  rw [hwa, hwb, hwc, hwd]
  have y2 := x3.trans x4
  have y1 := x2.trans y2
  exact ⟨wd, _, _, rfl, rfl, rfl, x1.trans y1, s4, y1.cell k0, y1.cell k1, y2.cell k2, y2.cell k3, x4.cell k4, x4.cell k5, k6, k7⟩
set_option maxRecDepth 100000 in
set_option maxHeartbeats 1600000 in
theorem step_replace (c : Int) (Z : Nat → Prop) (tr : Nat) (cw : Value) (o n : R) (x y : Int) (hn : n.small ∧ n.ok) (T : Tre) (w : World) (s : Nat → Prop) (hM : TreeM c Z w tr T cw s) (hF : Fine T 999999) :
    Calls Try.prog 66 #[.pointer (some ⟨tr, 0, none⟩), .agg #[.int .i64 o.x0, .int .i64 o.y0], .agg #[.int .i64 o.x1, .int .i64 o.y1], .int .i64 x, .agg #[.int .i64 n.x0, .int .i64 n.y0], .agg #[.int .i64 n.x1, .int .i64 n.y1], .int .i64 y] w
      fun e w' => StepPost c Z w tr s cw (if (deleteT o x T).1 then Bx.putT n y (deleteT o x T).2 else (deleteT o x T).2) e w' := by
  obtain ⟨T', hT'⟩ : ∃ T', (if (deleteT o x T).1 then Bx.putT n y (deleteT o x T).2 else (deleteT o x T).2) = T' := ⟨_, rfl⟩
  rw [hT']
  have HT' := Lib.hid hT'
  clear hT'
  have htl := hM.lt
  have hsl : ∀ b, s b → b < w.heap.size := fun b hb => hM.slt hb
  have HSL := Lib.hid hsl
  have HM := Lib.hid hM
  clear hM hsl
  go_enter Try.func66, Try.ntmps66
  go_upto_region 1 with (fail)
  obtain ⟨w1, b2, b3, e1, e2, e3, hx, hsz, k0, k1, k2, k3, k4, k5, k6, k7⟩ := box4 w o.x0 o.y0 o.x1 o.y1 n.x0 n.y0 n.x1 n.y1
  rw [e1, e3, e2]
  have hD := delete_fine c Z tr cw o x T w1 s (HM.out.ex hx) (hF.mono (by omega))
  have HSZ := Lib.hid hsz
  have HE2 := Lib.hid e2
  have HE3 := Lib.hid e3
  have HX := Lib.hid hx
  clear e1 e2 e3 hx hsz
  go_wp2_with fail
  refine hD.mono ?_
  rintro e w2 ⟨rfl, s', hM2, hG2, hC2⟩
  have z1 := HSZ.out
  have z2 := HE2.out
  have z3 := HE3.out
  have nb : ∀ b, w.heap.size ≤ b → b < w1.heap.size → ¬ (b = tr ∨ s b) := fun b h1 h2 h => by
    rcases h with h | h
    · omega
    · have := HSL.out b h; omega
  have m4 := hC2.cell k4 (nb _ (by dsimp only; omega) (by dsimp only; omega))
  have m5 := hC2.cell k5 (nb _ (by dsimp only; omega) (by dsimp only; omega))
  have m6 := hC2.cell k6 (nb _ (by dsimp only; omega) (by dsimp only; omega))
  have m7 := hC2.cell k7 (nb _ (by dsimp only; omega) (by dsimp only; omega))
  have HF2 := Lib.hid ((hF.del o x))
  have HM2 := Lib.hid hM2
  have HG2 := Lib.hid hG2
  have HC2 := Lib.hid hC2
  clear k0 k1 k2 k3 k4 k5 k6 k7 hM2 hG2 hC2 hD z1 z2 z3
  cases hd : (deleteT o x T).1 with
  | false =>
    have HD := Lib.hid hd
    clear hd
    go_wp2_with fail
    go_end0
    have hP := StepPost.of_ex HX.out ⟨rfl, s', HM2.out, HG2.out, HC2.out⟩
    rw [← HT'.out, HD.out, if_neg (by simp)]
    exact hP
  | true =>
    have hI := step_insert c Z tr cw n y hn (deleteT o x T).2 w2 s' HM2.out (HF2.out.mono (by omega))
    have HD := Lib.hid hd
    clear hd
    go_wp2_with fail
    refine hI.mono ?_
    rintro e w3 ⟨rfl, s3, hM3, hG3, hC3⟩
    have HM3 := Lib.hid hM3
    have HG3 := Lib.hid hG3
    have HC3 := Lib.hid hC3
    clear hM3 hG3 hC3 hI
    go_wp2_with fail
    go_end0
    have h1 := HC2.out.size
    have hP := StepPost.of_ex HX.out ⟨rfl, s3, HM3.out, fun b hb => by
      rcases HG3.out b hb with h | h
      · exact HG2.out b h
      · exact .inr (by omega), HC2.out.trans' HC3.out fun b hb h => by
      rcases h with h | h
      · exact .inl h
      · rcases HG2.out b h with h | h
        · exact .inr h
        · omega⟩
    rw [← HT'.out, HD.out, if_pos rfl]
    exact hP
end Go.Proofs.Ytboeldlilkeihaa
