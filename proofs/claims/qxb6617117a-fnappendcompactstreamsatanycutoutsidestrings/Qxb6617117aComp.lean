import Derived.Test.Qxb6617117aSteps
namespace Go.Proofs.Qxb6617117a
open Go.RowKit Cm

/-- what the loop keeps: the text up to k is appended -/
def CompR (w wr : World) (v x : Value) (l m : List UInt8) (k : Nat) : Prop := ∃ D, l ++ cm m = D ++ run false false (m.drop k) ∧ D.length ≤ l.length + k ∧ Gath w wr v x D

theorem comp_step {w wr w' : World} {v x x' : Value} {l m D : List UInt8} {k e k' : Nat} (hD : l ++ cm m = D ++ run false false (m.drop k)) (hl : D.length ≤ l.length + k) (G : Gath w wr v x D)
    (hrun : run false false (m.drop k) = (m.drop k).take (e - k) ++ run false false (m.drop k')) (hk : k ≤ e) (he : e ≤ k') (ho : Own w' x' (D ++ (m.drop k).take (e - k))) (hg : wr.grownBy w' x.ownBlock)
    (hb : x'.ownBlock = x.ownBlock ∨ x'.ownBlock = some wr.heap.size) : CompR w w' v x' l m k' := by
  refine ⟨D ++ (m.drop k).take (e - k), by rw [hD, hrun, List.append_assoc], ?_, G.step ⟨rfl, rfl, rfl, Nat.le_refl _, fun _ _ _ => rfl⟩ ho hg hb⟩
  rw [List.length_append, List.length_take]
  omega

set_option maxHeartbeats 1000000 in
theorem compact_any (v u : Value) (l m : List UInt8) (w : World) (ho : Own w v l) (hu : SL w u m) (ha : Apart w v u) (hn : l.length + m.length ≤ 1048576) :
    Calls Try.prog 15 #[v, u] w fun e w' => ∃ v', e = .returned v' ∧ Gath w w' v v' (l ++ cm m) := by
  have hm : m.length ≤ 1048576 := by omega
  go_enter Try.func15, Try.ntmps15
  go_wp2_with fail
  refine (next_any u m 0 34 w hu (Nat.zero_le _) hm).mono ?_
  rintro e w1 ⟨rfl, hw⟩
  rw [hw]
  clear hw w1
  go_wp2_with fail
  refine (next_any u m 0 32 w hu (Nat.zero_le _) hm).mono ?_
  rintro e w1 ⟨rfl, hw⟩
  rw [hw]
  clear hw w1
  go_wp2_with fail
  go_loopg [0, 5, 6, 7] m.length (fun g x t5 t6 t7 wr => ∃ (k : Nat) (Q S : Int), g + k = m.length ∧ t5 = .int .i64 k ∧ t6 = .int .i64 Q ∧ t7 = .int .i64 S ∧ Q = nextI m k 34 ∧ S = nextI m k 32 ∧ CompR w wr v x l m k)
  case atStart => exact ⟨0, _, _, rfl, rfl, rfl, rfl, rfl, rfl, l, rfl, Nat.le_refl _, Gath.start ho⟩
  case round =>
    obtain ⟨k, Q, S, hg, rfl, rfl, rfl, hQ, hS, D, hD, hDl, G⟩ := hrel
    have hur := G.other hu ha
    have HQ : Hid (Q = nextI m k 34) := hQ
    have HS : Hid (S = nextI m k 32) := hS
    have HD : Hid (l ++ cm m = D ++ run false false (m.drop k)) := hD
    clear hD hQ hS
    rcases next_spec m k 32 with ⟨hS1, hS2⟩ | ⟨sp, hS1, hS2, hS3, hS4, hS5⟩
    · rcases next_spec m k 34 with ⟨hQ1, hQ2⟩ | ⟨q, hQ1, hQ2, hQ3, hQ4, hQ5⟩
      · have hQn : Q < 0 := by rw [HQ.out, hQ1]; omega
        have hSn : S < 0 := by rw [HS.out, hS1]; omega
        clear hQ1 hS1
        obtain ⟨u', hrun, hu', _⟩ := hur.fromI k (by omega)
        obtain ⟨v', w', hap, ho', hg', hb'⟩ := own_append G.1 hu' (by rw [List.length_drop]; omega)
        go_wp2_with (at_builtin; refine Lib.wpList_append_run _ rfl _ _ _ _ rfl _ _ rfl rfl _ _ (hap _) ?_)
        go_ret
        have G' := G.step ⟨rfl, rfl, rfl, Nat.le_refl _, fun _ _ _ => rfl⟩ ho' hg' hb'
        rw [← stepC hS2 hQ2, ← HD.out] at G'
        exact ⟨_, rfl, G'⟩
      · have hSn : S < 0 := by rw [HS.out, hS1]; omega
        obtain rfl : Q = q := by rw [HQ.out, hQ1]
        clear hQ1
        obtain ⟨u', hrun, hu', _⟩ := hur.fromI (q + 1) (by omega)
        have e1 : ((q + 1 : Nat) : Int) = (q : Int) + 1 := by omega
        rw [e1] at hrun
        clear e1
        go_wp2_with fail
        refine (closing_any u' (m.drop (q + 1)) wr hu' (by rw [List.length_drop]; omega)).mono ?_
        rintro ee w1 ⟨r, rfl, hr, hw⟩
        rw [hw]
        clear hw w1
        obtain ⟨e, he, hqe, hem, hstep⟩ := stepB hQ2 hQ4 (fun j h1 _ => hS2 j h1) hQ5 hr
        obtain ⟨u2, hcut, hu2, _⟩ := hur.cut k e (by omega) hem
        obtain ⟨v', w', hap, ho', hg', hb'⟩ := own_append G.1 hu2 (by rw [List.length_take, List.length_drop]; omega)
        have C' : CompR w w' v v' l m e := comp_step HD.out hDl G hstep (by omega) (Nat.le_refl _) ho' hg' hb'
        have hu3 : SL w' u m := by obtain ⟨D2, _, _, G2⟩ := C'; exact G2.other hu ha
        have HC : Hid (CompR w w' v v' l m e) := C'
        have hr1 : -1 ≤ r := by omega
        have hr2 : r ≤ 1048576 := by omega
        have he' : (q : Int) + 1 + r + 1 = (e : Int) := he.symm
        clear hr hstep he C' ho' hg' hb'
        go_wp2_with (at_builtin; refine Lib.wpList_append_run _ rfl _ _ _ _ rfl _ _ rfl rfl _ _ (hap _) ?_)
        refine (next_any u m e 34 w' hu3 hem hm).mono ?_
        rintro ee w1 ⟨rfl, hw⟩
        rw [hw]
        clear hw w1
        go_wp2
        go_roundg (m.length - e)
        case measure => omega
        case rel => exact ⟨e, _, _, by omega, rfl, rfl, rfl, rfl, by rw [next_none (fun j hj => hS2 j (by omega))]; rw [HS.out, hS1], HC.out⟩
    · obtain rfl : S = sp := by rw [HS.out, hS1]
      have HS4 : Hid (m[sp]? = some 32) := hS4
      clear hS1 hS4
      rcases next_spec m k 34 with ⟨hQ1, hQ2⟩ | ⟨q, hQ1, hQ2, hQ3, hQ4, hQ5⟩
      · have hQn : Q < 0 := by rw [HQ.out, hQ1]; omega
        have HQ1 : Hid (nextI m k 34 = -1) := hQ1
        clear hQ1
        obtain ⟨u2, hcut, hu2, _⟩ := hur.cut k sp hS2 (by omega)
        obtain ⟨v', w', hap, ho', hg', hb'⟩ := own_append G.1 hu2 (by rw [List.length_take, List.length_drop]; omega)
        have C' : CompR w w' v v' l m (sp + 1) := comp_step HD.out hDl G (stepA hS2 HS4.out hS5 (fun j h1 _ => hQ2 j h1)) hS2 (by omega) ho' hg' hb'
        have hu3 : SL w' u m := by obtain ⟨D2, _, _, G2⟩ := C'; exact G2.other hu ha
        have HC : Hid (CompR w w' v v' l m (sp + 1)) := C'
        have hn1 := next_any u m (sp + 1) 32 w' hu3 (by omega) hm
        have e1 : ((sp + 1 : Nat) : Int) = (sp : Int) + 1 := by omega
        rw [e1] at hn1
        clear C' ho' hg' hb' e1
        go_wp2_with (first | (at_builtin; refine Lib.wpList_append_run _ rfl _ _ _ _ rfl _ _ rfl rfl _ _ (hap _) ?_) | (go_at_call 17; refine hn1.mono ?_; rintro ee w1 ⟨rfl, hw⟩; rw [hw]; clear hw))
        go_roundg (m.length - (sp + 1))
        case measure => omega
        case rel => exact ⟨sp + 1, _, _, by omega, by go_num, rfl, rfl, by rw [next_none (fun j hj => hQ2 j (by omega)), HQ.out, HQ1.out], rfl, HC.out⟩
      · obtain rfl : Q = q := by rw [HQ.out, hQ1]
        have HQ4 : Hid (m[q]? = some 34) := hQ4
        by_cases hlt : sp < q
        · clear hQ4
          clear hQ1
          obtain ⟨u2, hcut, hu2, _⟩ := hur.cut k sp hS2 (by omega)
          obtain ⟨v', w', hap, ho', hg', hb'⟩ := own_append G.1 hu2 (by rw [List.length_take, List.length_drop]; omega)
          have C' : CompR w w' v v' l m (sp + 1) := comp_step HD.out hDl G (stepA hS2 HS4.out hS5 (fun j h1 h2 => hQ5 j h1 (by omega))) hS2 (by omega) ho' hg' hb'
          have hu3 : SL w' u m := by obtain ⟨D2, _, _, G2⟩ := C'; exact G2.other hu ha
          have HC : Hid (CompR w w' v v' l m (sp + 1)) := C'
          have hn1 := next_any u m (sp + 1) 32 w' hu3 (by omega) hm
          have e1 : ((sp + 1 : Nat) : Int) = (sp : Int) + 1 := by omega
          rw [e1] at hn1
          clear C' ho' hg' hb' e1
          go_wp2_with (first | (at_builtin; refine Lib.wpList_append_run _ rfl _ _ _ _ rfl _ _ rfl rfl _ _ (hap _) ?_) | (go_at_call 17; refine hn1.mono ?_; rintro ee w1 ⟨rfl, hw⟩; rw [hw]; clear hw))
          go_roundg (m.length - (sp + 1))
          case measure => omega
          case rel => exact ⟨sp + 1, _, _, by omega, by go_num, rfl, rfl, (next_some (by omega) HQ4.out (fun j h1 h2 => hQ5 j (by omega) h2)).symm, rfl, HC.out⟩
        · have hne : sp ≠ q := fun h => by have h1 := HS4.out; rw [h, hQ4] at h1; simp at h1
          have hqs : q < sp := by omega
          clear hne
          clear hQ1
          obtain ⟨u', hrun, hu', _⟩ := hur.fromI (q + 1) (by omega)
          have e1 : ((q + 1 : Nat) : Int) = (q : Int) + 1 := by omega
          rw [e1] at hrun
          clear e1
          go_wp2_with fail
          refine (closing_any u' (m.drop (q + 1)) wr hu' (by rw [List.length_drop]; omega)).mono ?_
          rintro ee w1 ⟨r, rfl, hr, hw⟩
          rw [hw]
          clear hw w1
          obtain ⟨e, he, hqe, hem, hstep⟩ := stepB hQ2 hQ4 (fun j h1 h2 => hS5 j h1 (by omega)) hQ5 hr
          obtain ⟨u2, hcut, hu2, _⟩ := hur.cut k e (by omega) hem
          obtain ⟨v', w', hap, ho', hg', hb'⟩ := own_append G.1 hu2 (by rw [List.length_take, List.length_drop]; omega)
          have C' : CompR w w' v v' l m e := comp_step HD.out hDl G hstep (by omega) (Nat.le_refl _) ho' hg' hb'
          have hu3 : SL w' u m := by obtain ⟨D2, _, _, G2⟩ := C'; exact G2.other hu ha
          have HC : Hid (CompR w w' v v' l m e) := C'
          have hr1 : -1 ≤ r := by omega
          have hr2 : r ≤ 1048576 := by omega
          have he' : (q : Int) + 1 + r + 1 = (e : Int) := he.symm
          clear hr hstep he C' ho' hg' hb'
          go_wp2_with (at_builtin; refine Lib.wpList_append_run _ rfl _ _ _ _ rfl _ _ rfl rfl _ _ (hap _) ?_)
          refine (next_any u m e 34 w' hu3 hem hm).mono ?_
          rintro ee w1 ⟨rfl, hw⟩
          rw [hw]
          clear hw w1
          by_cases hse : sp < e
          · go_wp2_with (go_at_call 17; refine (next_any u m e 32 w' hu3 hem hm).mono ?_; rintro ee w1 ⟨rfl, hw⟩; rw [hw]; clear hw)
            go_roundg (m.length - e)
            case measure => omega
            case rel => exact ⟨e, _, _, by omega, rfl, rfl, rfl, rfl, rfl, HC.out⟩
          · go_wp2
            go_roundg (m.length - e)
            case measure => omega
            case rel => exact ⟨e, _, _, by omega, rfl, rfl, rfl, rfl, (next_some (by omega) HS4.out (fun j h1 h2 => hS5 j (by omega) h2)).symm, HC.out⟩
end Go.Proofs.Qxb6617117a
