/- The contract of 'nodeInsert' at a leaf, in the tree's own words. -/
import Derived.Test.YtboeldlilkeihaaInsL
import Derived.Test.YtboeldlilkeihaaStage
set_option linter.unusedSimpArgs false
set_option linter.unusedVariables false
namespace Go.Proofs.Ytboeldlilkeihaa
open Go.RowKit Go.Bx
/-- The contract, for the nodes that P lets in. -/
def InsC (c : Int) (Z : Nat → Prop) (tr b o : Nat) (sR : R) (x : Int) (h : Nat) (f : R → Nde (El h) → Bool × Bool × Nde (El h)) (P : Nde (El h) → Prop) : Prop :=
  ∀ (w : World) (p q : Nat) (ic : Int) (X : Nat → R × An h) (s : Nat → Prop) (rb ro : Nat) (r : R) (nd : Nde (El h)), P nd → OwnN c Z w h p q ic nd X s → InsCtx c Z w s tr rb ro r b o sR → WfN h nd → (h = 0 ∨ 1 ≤ nd.n) →
    Calls Try.prog 81 #[.pointer (some ⟨tr, 0, none⟩), .pointer (some ⟨rb, ro, none⟩), .pointer (some ⟨p, 0, none⟩), .pointer (some ⟨b, o, none⟩), .int .i64 x] w fun e w' => InsPost c Z w h p q s (f r nd) e w'
theorem ins_zero (c : Int) (Z : Nat → Prop) (tr b o : Nat) (sR : R) (x : Int) : InsC c Z tr b o sR x 0 (ins sR x 0) (fun _ => True) := by
  intro w p q ic X s rb ro r nd _ hO hC hW _
  obtain ⟨n, E⟩ := nd
  have hE : E = mp An.t X := hO.tE
  by_cases h64 : n = 64
  · subst h64
    refine (insLeaf_full w tr p q rb ro b o ic (mp An.v X) x hO.nx.nd).mono ?_
    rintro e w' ⟨rfl, d, rfl⟩
    have e1 : ins sR x 0 r ⟨64, E⟩ = (true, false, ⟨64, E⟩) := by
      show insL sR x r ⟨64, E⟩ = _
      unfold insL; rw [if_pos rfl]
    rw [e1]
    exact ⟨rfl, ic, X, s, hO.drewN d, Grew.refl _ _, (Chg.refl _ _).drewN d⟩
  · have hrp : rb ≠ p := fun h => hC.rs (h ▸ hO.ow.sp)
    have hrq : rb ≠ q := fun h => hC.rs (h ▸ hO.ow.sq)
    have hbp : b ≠ p := fun h => hC.bs (h ▸ hO.ow.sp)
    have hbq : b ≠ q := fun h => hC.bs (h ▸ hO.ow.sq)
    have hn := hW.1
    dsimp only at hn
    refine (insLeaf_put w tr p q rb ro b o ic n (mp An.v X) r sR x hO.nx.nd hO.nx.ls hO.nx.fit hO.nx.pq hn hC.hr hC.hs hrp hrq hbp hbq h64).mono ?_
    rintro e w' ⟨rfl, hN, hL, hc⟩
    have hrs : rsr (mp An.v X) sR.x0 n n 0 = rsr X sR.x0 n n 0 := mp_rsr _ _ _ _ _ _
    have hrt : rsr E sR.x0 n n 0 = rsr X sR.x0 n n 0 := by rw [hE]; exact mp_rsr _ _ _ _ _ _
    have e1 : ins sR x 0 r ⟨n, E⟩ = (false, !r.contains sR, ⟨n + 1, Bx.upd (shiftR E (rsr E sR.x0 n n 0) n) (rsr E sR.x0 n n 0) (sR, x)⟩) := by
      show insL sR x r ⟨n, E⟩ = _
      unfold insL; rw [if_neg h64]
    rw [e1]
    rw [hrs] at hN hL
    rw [hrt]
    have hi : rsr X sR.x0 n n 0 ≤ n := rsr_le X sR.x0 n n 0 (by omega)
    generalize rsr X sR.x0 n n 0 = i at *
    have hsp : ∀ k, (k = p ∨ k = q) → s k := fun k hk => by rcases hk with rfl | rfl; exact hO.ow.sp; exact hO.ow.sq
    obtain ⟨a, ha⟩ : ∃ a : An 0, a = ⟨.int .i64 x, x, fun _ => False⟩ := ⟨_, rfl⟩
    have ev : Bx.upd (shiftR (mp An.v X) i n) i (sR, .int .i64 x) = mp An.v (Bx.upd (shiftR X i n) i (sR, a)) := by
      rw [mp_upd, mp_shiftR, ha]
    have et : Bx.upd (shiftR E i n) i (sR, x) = mp An.t (Bx.upd (shiftR X i n) i (sR, a)) := by
      rw [mp_upd, mp_shiftR, hE, ha]
    rw [ev] at hN hL
    have hp := shiftR_perm X ((sR, a) : R × An 0) hi
    have hmem : ∀ f, f ∈ lst (n + 1) (Bx.upd (shiftR X i n) i (sR, a)) → f = (sR, a) ∨ f ∈ lst n X := fun f hf => List.mem_cons.1 (hp.mem_iff.1 hf)
    have has : ∀ k, ¬ a.s k := fun k => by rw [ha]; exact fun h => h
    refine ⟨rfl, ic, Bx.upd (shiftR X i n) i (sR, a), s, ⟨⟨hN, hL, ?_, hO.nx.pq, by dsimp only; omega⟩, et, ?_, ⟨hO.ow.sp, hO.ow.sq, fun k hk => Nat.lt_of_lt_of_le (hO.ow.slt k hk) hc.size, ?_, ?_, hO.ow.icc⟩⟩, Grew.refl _ _, hc.mono hsp⟩
    · have h0 := hO.nx.fit
      rw [← ev, fE_upd, fE_shiftR]
      obtain ⟨g, hg⟩ := h0
      rw [hg]
      exact ⟨Bx.upd (shiftR g i n) i x, by
        funext k
        simp only [Bx.upd, shiftR]
        split
        · rfl
        · split <;> rfl⟩
    · intro f hf
      rcases hmem f hf with rfl | hf
      · rw [ha]; exact ⟨rfl, fun _ h => h⟩
      · exact hO.el f hf
    · intro f hf k hk
      rcases hmem f hf with rfl | hf
      · exact (has k hk).elim
      · exact hO.ow.sub f hf k hk
    · refine (pw_perm hp).2 (pw_cons.2 ⟨fun f _ k hk => (has k hk).elim, hO.ow.sep⟩)
end Go.Proofs.Ytboeldlilkeihaa
