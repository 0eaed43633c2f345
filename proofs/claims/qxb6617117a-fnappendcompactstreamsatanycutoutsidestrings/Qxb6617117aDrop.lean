import Derived.Test.Qxb6617117aComp
namespace Go.Proofs.Qxb6617117a
open Go.RowKit Cm

theorem zzcompact_any (v u : Value) (l m : List UInt8) (w : World) (ho : Own w v l) (hu : SL w u m) (ha : Apart w v u) (hn : l.length + m.length ≤ 1048576) :
    Calls Try.prog 10 #[v, u] w fun e w' => ∃ v', e = .returned v' ∧ Gath w w' v v' (l ++ cm m) := by
  go_enter Try.func10, Try.ntmps10
  go_wp2_with (go_at_call 15; refine (compact_any _ _ _ _ _ ho hu ha hn).mono ?_; rintro e w' ⟨v', rfl, G⟩)
  go_ret
  exact ⟨_, rfl, G⟩

theorem zb_yes (a0 a1 : Option Addr) (n0 n1 c0 c1 : Nat) (w : World) (h : n0 + n1 ≤ 1048576) :
    Calls Try.prog 6 #[.slice a0 n0 c0, .slice a1 n1 c1] w fun e w' => e = .returned (.bool true) ∧ w' = w := by
  go_enter Try.func6, Try.ntmps6
  go_wp2
  go_ret
  exact ⟨rfl, rfl⟩

theorem zb_no (a0 a1 : Option Addr) (n0 n1 c0 c1 : Nat) (w : World) (h : 1048576 < n0 + n1) (h0 : n0 ≤ 9223372036854775807) (h1 : n1 ≤ 9223372036854775807) :
    Calls Try.prog 6 #[.slice a0 n0 c0, .slice a1 n1 c1] w fun e w' => e = .returned (.bool false) ∧ w' = w := by
  by_cases h2 : n0 ≤ 1048576
  · by_cases h3 : n1 ≤ 1048576
    · go_enter Try.func6, Try.ntmps6
      go_wp2
      go_ret
      exact ⟨rfl, rfl⟩
    · go_enter Try.func6, Try.ntmps6
      go_wp2
      go_ret
      exact ⟨rfl, rfl⟩
  · go_enter Try.func6, Try.ntmps6
    go_wp2
    go_ret
    exact ⟨rfl, rfl⟩

theorem drop_long (a0 a1 : Option Addr) (n0 n1 c0 c1 : Nat) (w : World) (h : 1048576 < n0 + n1) (h0 : n0 ≤ 9223372036854775807) (h1 : n1 ≤ 9223372036854775807) :
    Calls Try.prog 3 #[.slice a0 n0 c0, .slice a1 n1 c1] w fun e w' => e = .returned (.bool true) ∧ Below w.heap.size w w' := by
  go_enter Try.func3, Try.ntmps3
  go_wp2_with (go_at_call 6; refine (zb_no _ _ _ _ _ _ _ h h0 h1).mono ?_; rintro e w' ⟨rfl, rfl⟩)
  go_ret
  exact ⟨rfl, Below.refl _ _⟩

theorem drop_big (a0 a1 : Option Addr) (n0 n1 c0 c1 : Nat) (w : World) (h : n0 + n1 ≤ 1048576) (hb : 524288 < n0 ∨ 524288 < n1) :
    Calls Try.prog 3 #[.slice a0 n0 c0, .slice a1 n1 c1] w fun e w' => e = .returned (.bool true) ∧ Below w.heap.size w w' := by
  by_cases h0 : 524288 < n0
  · go_enter Try.func3, Try.ntmps3
    go_wp2_with (go_at_call 6; refine (zb_yes _ _ _ _ _ _ _ h).mono ?_; rintro e w' ⟨rfl, rfl⟩)
    go_ret
    exact ⟨rfl, Below.refl _ _⟩
  · have h1 : 524288 < n1 := by omega
    go_enter Try.func3, Try.ntmps3
    go_wp2_with (go_at_call 6; refine (zb_yes _ _ _ _ _ _ _ h).mono ?_; rintro e w' ⟨rfl, rfl⟩)
    go_ret
    exact ⟨rfl, Below.refl _ _⟩

/-- a block that was not there is another -/
theorem fresh_ne {w : World} {v u : Value} {l : List UInt8} (hv : Own w v l) {n : Nat} (hn : w.heap.size ≤ n) (hu : ∀ k, u.ownBlock = some k → n ≤ k) : ∀ k, u.ownBlock = some k → v.ownBlock ≠ some k := fun k hk e => by
  have h1 := hu k hk
  have h2 := hv.lt k e
  omega

theorem SL.below {w w' : World} {v : Value} {l : List UInt8} (h : SL w v l) (hb : Below w.heap.size w w') : SL w' v l := h.kept fun k hk _ => hb.block k hk
theorem Own.below {w w' : World} {v : Value} {l : List UInt8} (h : Own w v l) (hb : Below w.heap.size w w') : Own w' v l := h.kept (fun k hk => hb.block k (h.lt k hk)) hb.size

/-- what another slice gathers leaves v -/
theorem Gath.keepOwn {w wr : World} {v0 x v : Value} {L l : List UInt8} (G : Gath w wr v0 x L) (h : Own w v l) (hne : ∀ k, v.ownBlock = some k → v0.ownBlock ≠ some k) : Own wr v l :=
  h.kept (fun k hk => G.2.1 k (h.lt k hk) (hne k hk)) G.2.2.2.2.2.1

theorem Gath.size {w wr : World} {v0 x : Value} {L : List UInt8} (G : Gath w wr v0 x L) : w.heap.size ≤ wr.heap.size := G.2.2.2.2.2.1
theorem Gath.nilFresh {w wr : World} {x : Value} {L : List UInt8} (G : Gath w wr (.slice none 0 0) x L) : ∀ k, x.ownBlock = some k → w.heap.size ≤ k := by
  intro k hk
  rcases G.2.2.2.2.2.2 with h | h
  · rw [h] at hk; simp [Value.ownBlock] at hk
  · exact h k hk
theorem Gath.nilBelow {w wr : World} {x : Value} {L : List UInt8} (G : Gath w wr (.slice none 0 0) x L) : Below w.heap.size w wr := G.below (Nat.le_refl _) (by simp [Value.ownBlock])
/-- where it lies now -/
theorem Gath.from {w wr : World} {v0 x : Value} {L : List UInt8} (G : Gath w wr v0 x L) {n : Nat} (hn : n ≤ w.heap.size) (h0 : ∀ k, v0.ownBlock = some k → n ≤ k) : ∀ k, x.ownBlock = some k → n ≤ k := by
  intro k hk
  rcases G.2.2.2.2.2.2 with h | h
  · exact h0 k (by rw [← h, hk])
  · exact Nat.le_trans hn (h k hk)

set_option maxHeartbeats 1000000 in
theorem drop_main (a0 a1 : Option Addr) (c0 c1 : Nat) (d s : List UInt8) (w : World) (hd : SL w (.slice a0 d.length c0) d) (hs : SL w (.slice a1 s.length c1) s) (h : d.length + s.length ≤ 1048576) (h0 : d.length ≤ 524288) (h1 : s.length ≤ 524288) :
    Calls Try.prog 3 #[.slice a0 d.length c0, .slice a1 s.length c1] w fun e w' => e = .returned (.bool true) ∧ Below w.heap.size w w' := by
  have hcl := run_len s false false
  go_enter Try.func3, Try.ntmps3
  go_wp2_with (go_at_call 6; refine (zb_yes _ _ _ _ _ _ _ h).mono ?_; rintro e w' ⟨rfl, rfl⟩)
  refine (clone_any _ d _ hd (by omega)).mono ?_
  rintro e w1 ⟨vD, rfl, oD, fD, b1⟩
  have hs1 := hs.below b1
  go_wp2_with fail
  refine (clone_any _ s _ hs1 (by omega)).mono ?_
  rintro e w2 ⟨vS, rfl, oS, fS, b2⟩
  have oD2 := oD.below b2
  go_wp2_with fail
  refine (clone_any _ d _ oD2.sl (by omega)).mono ?_
  rintro e w3 ⟨vW, rfl, oW, fW, b3⟩
  have oD3 := oD2.below b3
  have oS3 := oS.below b3
  go_wp2_with fail
  refine (model_any _ s _ oS3.sl (by omega)).mono ?_
  rintro e w4 ⟨vO, rfl, GO⟩
  have b4 := GO.nilBelow
  have oD4 := oD3.below b4
  have oS4 := oS3.below b4
  have oW4 := oW.below b4
  go_wp2_with fail
  have aWO : Apart w4 vW vO := fun k _ hk => fresh_ne oW (Nat.le_refl _) GO.nilFresh k hk
  refine (appendBytes_any _ _ d (cm s) _ oW4 GO.1.sl aWO (by unfold cm; omega)).mono ?_
  rintro e w5 ⟨vX, rfl, GX⟩
  have oD5 := GX.keepOwn oD4 (fun k hk e => by have h1 := oD2.lt k hk; have h2 := fW k e; omega)
  have oS5 := GX.keepOwn oS4 (fun k hk e => by have h1 := oS.lt k hk; have h2 := fW k e; omega)
  go_wp2_with fail
  have aDS : Apart w5 vD vS := fun k _ hk => fresh_ne oD (Nat.le_refl _) fS k hk
  refine (zzcompact_any _ _ d s _ oD5 oS5.sl aDS (by omega)).mono ?_
  rintro e w6 ⟨vG, rfl, GG⟩
  have fX := GX.from (n := w2.heap.size) (by have := b3.size; have := b4.size; omega) fW
  have oX6 := GG.keepOwn GX.1 (fun k hk e => by have h1 := oD2.lt k e; have h2 := fX k hk; omega)
  go_wp2_with fail
  refine (same_any _ _ _ _ GG.1.sl oX6.sl (by rw [List.length_append]; unfold cm; omega)).mono ?_
  rintro e w7 ⟨rfl, n, hw7⟩
  go_wp2
  go_ret
  refine ⟨rfl, ?_⟩
  have B1 := b1
  have B2 : Below w'.heap.size w' w2 := b1.trans (b2.mono b1.size)
  have B3 : Below w'.heap.size w' w3 := B2.trans (b3.mono B2.size)
  have B4 : Below w'.heap.size w' w4 := B3.trans (b4.mono B3.size)
  have B5 : Below w'.heap.size w' w5 := B4.trans (GX.below B4.size (fun k hk => Nat.le_trans B2.size (fW k hk)))
  have B6 : Below w'.heap.size w' w6 := B5.trans (GG.below B5.size fD)
  exact below_drewN B6 n
end Go.Proofs.Qxb6617117a
