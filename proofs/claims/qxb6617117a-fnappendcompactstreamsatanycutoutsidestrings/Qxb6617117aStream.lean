import Derived.Test.Qxb6617117aArgs
namespace Go.Proofs.Qxb6617117a
open Go.RowKit Cm

theorem zbs_yes (a0 a1 : Option Addr) (n0 n1 c0 c1 : Nat) (x : Int) (w : World) (h : n0 + n1 ≤ 1048576) :
    Calls Try.prog 12 #[.slice a0 n0 c0, .slice a1 n1 c1, .int .i64 x] w fun e w' => e = .returned (.bool true) ∧ w' = w := by
  go_enter Try.func12, Try.ntmps12
  go_wp2
  go_ret
  exact ⟨rfl, rfl⟩

theorem zbs_no (a0 a1 : Option Addr) (n0 n1 c0 c1 : Nat) (x : Int) (w : World) (h : 1048576 < n0 + n1) (h0 : n0 ≤ 9223372036854775807) (h1 : n1 ≤ 9223372036854775807) :
    Calls Try.prog 12 #[.slice a0 n0 c0, .slice a1 n1 c1, .int .i64 x] w fun e w' => e = .returned (.bool false) ∧ w' = w := by
  by_cases h2 : n0 ≤ 1048576
  · by_cases h3 : n1 ≤ 1048576
    · go_enter Try.func12, Try.ntmps12
      go_wp2
      go_ret
      exact ⟨rfl, rfl⟩
    · go_enter Try.func12, Try.ntmps12
      go_wp2
      go_ret
      exact ⟨rfl, rfl⟩
  · go_enter Try.func12, Try.ntmps12
    go_wp2
    go_ret
    exact ⟨rfl, rfl⟩

theorem stream_long (a0 a1 : Option Addr) (n0 n1 c0 c1 : Nat) (x : Int) (w : World) (h : 1048576 < n0 + n1) (h0 : n0 ≤ 9223372036854775807) (h1 : n1 ≤ 9223372036854775807) :
    Calls Try.prog 4 #[.slice a0 n0 c0, .slice a1 n1 c1, .int .i64 x] w fun e w' => e = .returned (.bool true) ∧ Below w.heap.size w w' := by
  go_enter Try.func4, Try.ntmps4
  go_wp2_with (go_at_call 12; refine (zbs_no _ _ _ _ _ _ _ _ h h0 h1).mono ?_; rintro e w' ⟨rfl, rfl⟩)
  go_ret
  exact ⟨rfl, Below.refl _ _⟩

theorem stream_big (a0 a1 : Option Addr) (n0 n1 c0 c1 : Nat) (x : Int) (w : World) (h : n0 + n1 ≤ 1048576) (hb : 524288 < n0 ∨ 524288 < n1) :
    Calls Try.prog 4 #[.slice a0 n0 c0, .slice a1 n1 c1, .int .i64 x] w fun e w' => e = .returned (.bool true) ∧ Below w.heap.size w w' := by
  by_cases h0 : 524288 < n0
  · go_enter Try.func4, Try.ntmps4
    go_wp2_with (go_at_call 12; refine (zbs_yes _ _ _ _ _ _ _ _ h).mono ?_; rintro e w' ⟨rfl, rfl⟩)
    go_ret
    exact ⟨rfl, Below.refl _ _⟩
  · have h1 : 524288 < n1 := by omega
    go_enter Try.func4, Try.ntmps4
    go_wp2_with (go_at_call 12; refine (zbs_yes _ _ _ _ _ _ _ _ h).mono ?_; rintro e w' ⟨rfl, rfl⟩)
    go_ret
    exact ⟨rfl, Below.refl _ _⟩

theorem stream_out (a0 a1 : Option Addr) (n0 n1 c0 c1 : Nat) (x : Int) (w : World) (h : n0 + n1 ≤ 1048576) (h0 : n0 ≤ 524288) (h1 : n1 ≤ 524288) (hx : x < 0 ∨ (n1 : Int) < x) :
    Calls Try.prog 4 #[.slice a0 n0 c0, .slice a1 n1 c1, .int .i64 x] w fun e w' => e = .returned (.bool true) ∧ Below w.heap.size w w' := by
  by_cases hx0 : x < 0
  · go_enter Try.func4, Try.ntmps4
    go_wp2_with (go_at_call 12; refine (zbs_yes _ _ _ _ _ _ _ _ h).mono ?_; rintro e w' ⟨rfl, rfl⟩)
    go_ret
    exact ⟨rfl, Below.refl _ _⟩
  · have hx1 : (n1 : Int) < x := by omega
    go_enter Try.func4, Try.ntmps4
    go_wp2_with (go_at_call 12; refine (zbs_yes _ _ _ _ _ _ _ _ h).mono ?_; rintro e w' ⟨rfl, rfl⟩)
    go_ret
    exact ⟨rfl, Below.refl _ _⟩

/-- what lies below n is left by what gathers from n on -/
theorem Gath.keepLow {w wr : World} {v0 x v : Value} {L l : List UInt8} (G : Gath w wr v0 x L) (h : Own w v l) (n : Nat) (hlow : ∀ k, v.ownBlock = some k → k < n) (hhigh : ∀ k, v0.ownBlock = some k → n ≤ k) : Own wr v l :=
  G.keepOwn h fun k hk e => by have h1 := hlow k hk; have h2 := hhigh k e; omega

theorem model_as (u : Value) (l : List UInt8) (w : World) (hu : SL w u l) (hn : l.length ≤ 1048576) (b : Bool) (hb : (fin false false l).1 = b) :
    Calls Try.prog 8 #[u] w fun e w' => ∃ v', e = .returned (.tuple #[v', .bool (!b)]) ∧ Gath w w' (.slice none 0 0) v' (cm l) := by
  have := model_any u l w hu hn
  rwa [hb] at this

theorem zbs_sl (v u : Value) (d s : List UInt8) (x : Int) (w : World) (hv : SL w v d) (hu : SL w u s) (h : d.length + s.length ≤ 1048576) :
    Calls Try.prog 12 #[v, u, .int .i64 x] w fun e w' => e = .returned (.bool true) ∧ w' = w := by
  obtain ⟨a0, c0, rfl, _⟩ := hv
  obtain ⟨a1, c1, rfl, _⟩ := hu
  exact zbs_yes _ _ _ _ _ _ x w h

set_option maxHeartbeats 1000000 in
theorem stream_shut (v u : Value) (d s : List UInt8) (k : Nat) (w : World) (hd : SL w v d) (hs : SL w u s) (h : d.length + s.length ≤ 1048576) (h0 : d.length ≤ 524288) (h1 : s.length ≤ 524288) (hk : k ≤ s.length)
    (hf : (fin false false (s.take k)).1 = true) :
    Calls Try.prog 4 #[v, u, .int .i64 k] w fun e w' => e = .returned (.bool true) ∧ Below w.heap.size w w' := by
  have hl0 := len_run hd
  have hl1 := len_run hs
  obtain ⟨u1, hrun, hu1, _⟩ := hs.upto k hk
  go_enter Try.func4, Try.ntmps4
  go_wp2_with (go_at_call 12; refine (zbs_sl _ _ _ _ _ _ hd hs h).mono ?_; rintro e w' ⟨rfl, hw⟩; rw [hw]; clear hw)
  refine (model_as _ _ _ hu1 (by rw [List.length_take]; omega) true hf).mono ?_
  rintro e w1 ⟨vM, rfl, GM⟩
  go_wp2
  go_ret
  exact ⟨rfl, GM.nilBelow⟩

set_option maxHeartbeats 2000000 in
theorem stream_main (v u : Value) (d s : List UInt8) (k : Nat) (w : World) (hd : SL w v d) (hs : SL w u s) (h : d.length + s.length ≤ 1048576) (h0 : d.length ≤ 524288) (h1 : s.length ≤ 524288) (hk : k ≤ s.length)
    (hf : (fin false false (s.take k)).1 = false) :
    Calls Try.prog 4 #[v, u, .int .i64 k] w fun e w' => e = .returned (.bool true) ∧ Below w.heap.size w w' := by
  have hl0 := len_run hd
  have hl1 := len_run hs
  have hcl := run_len s false false
  have hct := run_len (s.take k) false false
  have hlt : (s.take k).length = k := by rw [List.length_take]; omega
  rw [hlt] at hct
  obtain ⟨u1, hrun, hu1, _⟩ := hs.upto k hk
  go_enter Try.func4, Try.ntmps4
  go_wp2_with (go_at_call 12; refine (zbs_sl _ _ _ _ _ _ hd hs h).mono ?_; rintro e w' ⟨rfl, hw⟩; rw [hw]; clear hw)
  refine (model_as _ _ _ hu1 (by omega) false hf).mono ?_
  rintro e w1 ⟨vM, rfl, GM⟩
  have b1 := GM.nilBelow
  have hd1 := hd.below b1
  have hs1 := hs.below b1
  have hl0' := hl0
  go_wp2_with fail
  refine (clone_any _ d _ hd1 (by omega)).mono ?_
  rintro e w2 ⟨vD, rfl, oD, fD, b2⟩
  have hs2 := hs1.below b2
  go_wp2_with fail
  refine (clone_any _ s _ hs2 (by omega)).mono ?_
  rintro e w3 ⟨vS, rfl, oS, fS, b3⟩
  have oD3 := oD.below b3
  go_wp2_with fail
  refine (clone_any _ d _ oD3.sl (by omega)).mono ?_
  rintro e w4 ⟨vW, rfl, oW, fW, b4⟩
  have oD4 := oD3.below b4
  have oS4 := oS.below b4
  go_wp2_with fail
  refine (model_any _ s _ oS4.sl (by omega)).mono ?_
  rintro e w5 ⟨vO, rfl, GO⟩
  have b5 := GO.nilBelow
  have oD5 := oD4.below b5
  have oS5 := oS4.below b5
  have oW5 := oW.below b5
  go_wp2_with fail
  have aWO : Apart w5 vW vO := fun k _ hk => fresh_ne oW (Nat.le_refl _) GO.nilFresh k hk
  refine (appendBytes_any _ _ d (cm s) _ oW5 GO.1.sl aWO (by unfold cm; omega)).mono ?_
  rintro e w6 ⟨vX, rfl, GX⟩
  have oX := GX.1
  have oD6 := GX.keepLow oD5 w3.heap.size oD3.lt fW
  have oS6 := GX.keepLow oS5 w3.heap.size oS.lt fW
  have B3 : Below w.heap.size w w3 := (b1.trans (b2.mono b1.size)).trans (b3.mono (Nat.le_trans b1.size b2.size))
  have B4 : Below w.heap.size w w4 := B3.trans (b4.mono B3.size)
  have B5 : Below w.heap.size w w5 := B4.trans (b5.mono B4.size)
  have B6 : Below w.heap.size w w6 := B5.trans (GX.below B5.size (fun k hk => Nat.le_trans B3.size (fW k hk)))
  clear GO GX oD3 oD4 oD5 oS4 oS5 oW oW5 aWO b4 b5 hs1 hs2 hd1
  go_wp2_with fail
  refine (clone_any _ d _ oD6.sl (by omega)).mono ?_
  rintro e w7 ⟨vE, rfl, oE, fE, b7⟩
  have oD7 := oD6.below b7
  have oS7 := oS6.below b7
  have oX7 := oX.below b7
  go_wp2_with fail
  have aES : Apart w7 vE vS := fun k _ hk e => by have h1 := oS6.lt k hk; have h2 := fE k e; omega
  refine (zzcompact_any _ _ d s _ oE oS7.sl aES (by omega)).mono ?_
  rintro e w8 ⟨vH, rfl, GH⟩
  have oH := GH.1
  have oD8 := GH.keepLow oD7 w6.heap.size oD6.lt fE
  have oS8 := GH.keepLow oS7 w6.heap.size oS6.lt fE
  have oX8 := GH.keepLow oX7 w6.heap.size oX.lt fE
  have B8 : Below w.heap.size w w8 := (B6.trans (b7.mono B6.size)).trans (GH.below (Nat.le_trans B6.size b7.size) (fun k hk => Nat.le_trans B6.size (fE k hk)))
  clear GH oD6 oS6 oX oD7 oS7 oX7 aES oE b7
  obtain ⟨vA, hrunA, hA, bA⟩ := oS8.sl.upto k hk
  obtain ⟨vB, hrunB, hB, bB⟩ := oS8.sl.fromI k hk
  have oD8' : Own w8.drew vD d := oD8
  have oH8' : Own w8.drew vH (d ++ cm s) := oH
  have oX8' : Own w8.drew vX (d ++ cm s) := oX8
  have hA' : SL w8.drew vA (s.take k) := hA
  have hB' : SL w8.drew vB (s.drop k) := hB
  have B8' : Below w.heap.size w w8.drew := B8.drew
  have z8 : w8.drew.heap.size = w8.heap.size := rfl
  have lS := oS8.lt
  have HCUT : Hid (cm s = cm (s.take k) ++ cm (s.drop k)) := cm_cut s k hf
  clear hA hB oD8 oH oX8 B8 fE hd hs hl0 hl1 hl0' hrun hu1 GM B3 B4 B5 B6 fW fS fD oD oS b1 b2 b3 hf
  have k1 : (s.take k).length ≤ 1048576 := by omega
  have k0 : d.length ≤ 1048576 := by omega
  go_wp2
  go_region_with (first | (go_at_call_of 7 vD; refine (clone_any vD d _ (by exact oD8'.sl) k0).mono ?_; rintro e w9 ⟨vF, rfl, oF, fF, b9⟩; have hA9 := hA'.below b9) | (go_at_call_of 7 vA; refine (clone_any vA (s.take k) _ (by exact hA9) k1).mono ?_; rintro e w10 ⟨vC, rfl, oC, fC, b10⟩; have oF10 := oF.below b10; have aFC : Apart w10 vF vC := fun k _ hk => fresh_ne oF (Nat.le_refl _) fC k hk; have kk : d.length + (s.take k).length ≤ 1048576 := by omega) | (go_at_call 10; refine (zzcompact_any vF vC d (s.take k) _ oF10 oC.sl aFC kk).mono ?_; rintro e w11 ⟨vY, rfl, GY⟩))
  have oH11 := GY.keepLow ((oH8'.below b9).below b10) w8.drew.heap.size oH8'.lt fF
  have oX11 := GY.keepLow ((oX8'.below b9).below b10) w8.drew.heap.size oX8'.lt fF
  have hB11 := GY.other ((hB'.below b9).below b10) (fun j _ hj e => by have h1 := lS j (by rw [← bB]; exact hj); have h2 := fF j e; omega)
  have fY := GY.from (n := w8.drew.heap.size) (Nat.le_trans b9.size b10.size) fF
  have B11 : Below w.heap.size w w11 := ((B8'.trans (b9.mono B8'.size)).trans (b10.mono (Nat.le_trans B8'.size b9.size))).trans (GY.below (Nat.le_trans B8'.size (Nat.le_trans b9.size b10.size)) (fun j hj => Nat.le_trans B8'.size (fF j hj)))
  have oY := GY.1
  have zY : w8.drew.heap.size ≤ w11.heap.size := Nat.le_trans b9.size (Nat.le_trans b10.size GY.size)
  clear GY oF10 oC aFC oF b9 b10 hA9 hA' hB' oD8' fC hrunA
  go_wp2_with fail
  refine (clone_any vB (s.drop k) _ hB11 (by rw [List.length_drop]; omega)).mono ?_
  rintro e w12 ⟨vG, rfl, oG, fG, b12⟩
  have oY12 := oY.below b12
  have aYG : Apart w12 vY vG := fun k _ hk => fresh_ne oY (Nat.le_refl _) fG k hk
  go_wp2_with fail
  refine (zzcompact_any vY vG (d ++ cm (s.take k)) (s.drop k) _ oY12 oG.sl aYG (by rw [List.length_append, List.length_drop]; unfold cm; omega)).mono ?_
  rintro e w13 ⟨vZ, rfl, GZ⟩
  have oH13 := GZ.keepLow (oH11.below b12) w8.drew.heap.size oH8'.lt fY
  have oX13 := GZ.keepLow (oX11.below b12) w8.drew.heap.size oX8'.lt fY
  have oZ := GZ.1
  rw [List.append_assoc, ← HCUT.out] at oZ
  have kd : (d ++ cm s).length ≤ 16777216 := by rw [List.length_append]; unfold cm; omega
  have B13 : Below w.heap.size w w13 := (B11.trans (b12.mono B11.size)).trans (GZ.below (Nat.le_trans B11.size b12.size) (fun j hj => Nat.le_trans B8'.size (fY j hj)))
  go_wp2_with fail
  refine (same_any vZ vH (d ++ cm s) _ oZ.sl oH13.sl kd).mono ?_
  rintro e w14 ⟨rfl, n14, hw14⟩
  have oH14 : Own w14 vH (d ++ cm s) := by rw [hw14]; exact oH13
  have oX14 : Own w14 vX (d ++ cm s) := by rw [hw14]; exact oX13
  have B14 : Below w.heap.size w w14 := by rw [hw14]; exact below_drewN B13 _
  clear hw14
  go_wp2_with fail
  refine (same_any vH vX (d ++ cm s) _ oH14.sl oX14.sl kd).mono ?_
  rintro e w15 ⟨rfl, n15, hw15⟩
  have B15 : Below w.heap.size w w15 := by rw [hw15]; exact below_drewN B14 _
  clear hw15
  go_wp2
  go_ret
  exact ⟨rfl, B15⟩

theorem stream_walk (a0 : Option Addr) (len0 cap0 : Nat) (z0 : List Int) (a1 : Option Addr) (len1 cap1 : Nat) (z1 : List Int) (x : Int) (w : World) (w0 : IsRow .u8 w a0 len0 cap0 z0) (w1 : IsRow .u8 w a1 len1 cap1 z1) :
    Calls Try.prog 4 #[.slice a0 len0 cap0, .slice a1 len1 cap1, .int .i64 x] w fun e w' => e = .returned (.bool true) ∧ Below w.heap.size w w' := by
  obtain ⟨l0, m0⟩ := row_len w0
  obtain ⟨l1, m1⟩ := row_len w1
  by_cases h : len0 + len1 ≤ 1048576
  · by_cases hb : 524288 < len0 ∨ 524288 < len1
    · exact stream_big a0 a1 len0 len1 cap0 cap1 x w h hb
    · by_cases hx : x < 0 ∨ (len1 : Int) < x
      · exact stream_out a0 a1 len0 len1 cap0 cap1 x w h (by omega) (by omega) hx
      · obtain ⟨k, rfl⟩ : ∃ k : Nat, x = k := ⟨x.toNat, by omega⟩
        have s0 := row_sl w0
        have s1 := row_sl w1
        rw [l0] at s0
        rw [l1] at s1
        cases hf : (fin false false ((bytesZ len1 z1).take k)).1 with
        | true => exact stream_shut _ _ (bytesZ len0 z0) (bytesZ len1 z1) k w s0 s1 (by omega) (by omega) (by omega) (by omega) hf
        | false => exact stream_main _ _ (bytesZ len0 z0) (bytesZ len1 z1) k w s0 s1 (by omega) (by omega) (by omega) (by omega) hf
  · exact stream_long a0 a1 len0 len1 cap0 cap1 x w (by omega) m0 m1
end Go.Proofs.Qxb6617117a
