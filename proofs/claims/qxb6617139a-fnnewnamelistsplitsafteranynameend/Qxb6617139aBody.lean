import Derived.Test.Qxb6617139aAre
namespace Go.Proofs.Qxb6617139a
open Go.RowKit Names

theorem ListOf.below {w w' : World} {v : Value} {s : ByteArray} (h : ListOf w v s) {B : Nat} (hb : Below B w w') (hB : w.heap.size ≤ B) : ListOf w' v s := by
  rcases h with h | ⟨h0, b, r, cap, rfl, hc0, hc1, hrow, h1, h2⟩
  · exact .inl h
  · have z := hb.size
    refine .inr ⟨h0, b, r, cap, rfl, (hb.cell (p := ⟨b, 0, none⟩) (by show b < B; omega)).trans hc0, (hb.cell (p := ⟨b, 1, none⟩) (by show b < B; omega)).trans hc1, fun i hi => ?_, by omega, by omega⟩
    exact ⟨(hb.cell (p := ⟨r, i * 2, none⟩) (by show r < B; omega)).trans (hrow i hi).1, (hb.cell (p := ⟨r, i * 2 + 1, none⟩) (by show r < B; omega)).trans (hrow i hi).2⟩

theorem ListOf.drewN {w : World} {v : Value} {s : ByteArray} (h : ListOf w v s) (n : Nat) : ListOf (w.drewN n) v s := h

theorem names_nil {s : ByteArray} (h : s.size = 0) : names s.data.toList = [] := by
  have : s.data.toList.length = 0 := h
  rw [List.eq_nil_of_length_eq_zero this]
  rfl

theorem nameCount_of (v : Value) (s : ByteArray) (w : World) (h : ListOf w v s) :
    Calls Try.prog 18 #[v] w fun e w' => e = .returned (.int .i64 (names s.data.toList).length) ∧ w' = w := by
  rcases h with ⟨h0, rfl⟩ | ⟨h0, b, r, cap, rfl, hc0, hc1, hrow, h1, h2⟩
  · rw [names_nil h0]
    exact nameCount_nil w
  · exact nameCount_at b _ _ cap w hc1

theorem name_of (v : Value) (s : ByteArray) (w : World) (h : ListOf w v s) (i : Nat) (x : List UInt8) (hx : (names s.data.toList)[i]? = some x) :
    Calls Try.prog 20 #[v, .int .i64 i] w fun e w' => e = .returned (.string (ba x)) ∧ w' = w := by
  obtain ⟨hi, hx⟩ := List.getElem?_eq_some_iff.1 hx
  rcases h with ⟨h0, rfl⟩ | ⟨h0, b, r, cap, rfl, hc0, hc1, hrow, h1, h2⟩
  · rw [names_nil h0] at hi
    simp at hi
  · have := (hrow i hi).2
    rw [hx] at this
    exact name_at b r _ cap i _ w hc1 hi this

theorem key_of (v : Value) (s : ByteArray) (w : World) (h : ListOf w v s) (i : Nat) (x : List UInt8) (hx : (names s.data.toList)[i]? = some x) :
    Calls Try.prog 21 #[v, .int .i64 i] w fun e w' => e = .returned (.int .u64 (nk (ba x) 8 : Nat)) ∧ w' = w := by
  obtain ⟨hi, hx⟩ := List.getElem?_eq_some_iff.1 hx
  rcases h with ⟨h0, rfl⟩ | ⟨h0, b, r, cap, rfl, hc0, hc1, hrow, h1, h2⟩
  · rw [names_nil h0] at hi
    simp at hi
  · have := (hrow i hi).1
    rw [hx] at this
    exact key_at b r _ cap i _ w hc1 hi this

theorem name_of2 (v : Value) (s : ByteArray) (w : World) (h : ListOf w v s) (m i : Nat) (x : List UInt8) (hx : (names s.data.toList)[m + i]? = some x) :
    Calls Try.prog 20 #[v, .int .i64 ((m : Int) + (i : Int))] w fun e w' => e = .returned (.string (ba x)) ∧ w' = w := by
  have := name_of v s w h (m + i) x hx
  rwa [Int.natCast_add] at this

theorem key_of2 (v : Value) (s : ByteArray) (w : World) (h : ListOf w v s) (m i : Nat) (x : List UInt8) (hx : (names s.data.toList)[m + i]? = some x) :
    Calls Try.prog 21 #[v, .int .i64 ((m : Int) + (i : Int))] w fun e w' => e = .returned (.int .u64 (nk (ba x) 8 : Nat)) ∧ w' = w := by
  have := key_of v s w h (m + i) x hx
  rwa [Int.natCast_add] at this

theorem ListOf.shape {w : World} {v : Value} {s : ByteArray} (h : ListOf w v s) (h0 : 0 < s.size) :
    ∃ b c cap, v = .pointer (some ⟨b, 0, none⟩) ∧ w.cell? ⟨b, 0, none⟩ = some (.string s) ∧ w.cell? ⟨b, 1, none⟩ = some (.slice c (names s.data.toList).length cap) := by
  rcases h with ⟨h0, rfl⟩ | ⟨h0, b, r, cap, rfl, hc0, hc1, hrow, h1, h2⟩
  · omega
  · exact ⟨b, _, cap, rfl, hc0, hc1⟩

theorem walk_long (a b : ByteArray) (w : World) (h : 1048576 < a.size + b.size) (ha : a.size ≤ maxLen) (hb : b.size ≤ maxLen) :
    Calls Try.prog 5 #[.string a, .string b] w fun e w' => e = .returned (.bool true) ∧ Below w.heap.size w w' := by
  unfold maxLen at ha hb
  go_enter Try.func5, Try.ntmps5
  go_wp2_with (go_at_call 14; refine (zb_no _ _ _ h ha hb).mono ?_; rintro e w' ⟨rfl, rfl⟩)
  go_ret
  exact ⟨rfl, Below.refl _ _⟩

theorem walk_a (a b : ByteArray) (w : World) (h : a.size + b.size ≤ 1048576) (ha : 524288 < a.size) :
    Calls Try.prog 5 #[.string a, .string b] w fun e w' => e = .returned (.bool true) ∧ Below w.heap.size w w' := by
  go_enter Try.func5, Try.ntmps5
  go_wp2_with (go_at_call 14; refine (zb_yes _ _ _ h).mono ?_; rintro e w' ⟨rfl, rfl⟩)
  go_ret
  exact ⟨rfl, Below.refl _ _⟩

theorem walk_b (a b : ByteArray) (w : World) (h : a.size + b.size ≤ 1048576) (ha : a.size ≤ 524288) (hb : 524288 < b.size) :
    Calls Try.prog 5 #[.string a, .string b] w fun e w' => e = .returned (.bool true) ∧ Below w.heap.size w w' := by
  go_enter Try.func5, Try.ntmps5
  go_wp2_with (go_at_call 14; refine (zb_yes _ _ _ h).mono ?_; rintro e w' ⟨rfl, rfl⟩)
  go_ret
  exact ⟨rfl, Below.refl _ _⟩

theorem empty_of {s : ByteArray} (h : s.size = 0) : s.toList.isEmpty = true := by
  rw [Lib.toList_data]
  have : s.data.toList.length = 0 := h
  rw [List.eq_nil_of_length_eq_zero this]
  rfl

theorem nonempty_of {s : ByteArray} (h : 0 < s.size) : s.toList.isEmpty = false := by
  rw [Lib.toList_data]
  have h2 : s.data.toList.length = s.size := rfl
  have : s.data.toList ≠ [] := fun h3 => by rw [h3] at h2; simp at h2; omega
  simpa using this

theorem walk_open (a b : ByteArray) (w : World) (h : a.size + b.size ≤ 1048576) (ha : a.size ≤ 524288) (hb : b.size ≤ 524288) (h0 : 0 < a.size) (hl : a[a.size - 1] ≠ 0) :
    Calls Try.prog 5 #[.string a, .string b] w fun e w' => e = .returned (.bool true) ∧ Below w.heap.size w w' := by
  have he := nonempty_of h0
  have hl0 : ((a[a.size - 1].toNat : Int) == 0) = false := by
    simp
    intro h
    exact hl (UInt8.toNat_inj.1 (by simpa using h))
  go_enter Try.func5, Try.ntmps5
  go_wp2_with (go_at_call 14; refine (zb_yes _ _ _ h).mono ?_; rintro e w' ⟨rfl, rfl⟩)
  go_ret
  exact ⟨rfl, Below.refl _ _⟩

theorem at_left {N A B : List (List UInt8)} (h : N = A ++ B) {k : Nat} (hk : k < A.length) : ∃ x, A[k]? = some x ∧ N[k]? = some x :=
  ⟨A[k], List.getElem?_eq_getElem hk, by rw [h, List.getElem?_append_left hk, List.getElem?_eq_getElem hk]⟩

theorem at_right {N A B : List (List UInt8)} (h : N = A ++ B) {k : Nat} (hk : k < B.length) : ∃ x, B[k]? = some x ∧ N[A.length + k]? = some x :=
  ⟨B[k], List.getElem?_eq_getElem hk, by rw [h, List.getElem?_append_right (by omega), Nat.add_sub_cancel_left, List.getElem?_eq_getElem hk]⟩

set_option maxHeartbeats 1000000 in
theorem walk_main (a b : ByteArray) (w : World) (h : a.size + b.size ≤ 1048576) (ha : a.size ≤ 524288) (hb : b.size ≤ 524288) (hl : a.size = 0 ∨ ∃ h : a.size - 1 < a.size, a[a.size - 1] = 0) :
    Calls Try.prog 5 #[.string a, .string b] w fun e w' => e = .returned (.bool true) ∧ Below w.heap.size w w' := by
  have hd : a.data.toList = [] ∨ a.data.toList.getLast? = some 0 := by
    rcases hl with h0 | ⟨h0, h1⟩
    · exact .inl (List.eq_nil_of_length_eq_zero h0)
    · exact .inr (by rw [getLast_ba a h0, h1])
  have hN := names_append a.data.toList b.data.toList hd
  have hsz : (a ++ b).size = a.size + b.size := by simp
  have hdat : (a ++ b).data.toList = a.data.toList ++ b.data.toList := by simp
  rw [← hdat] at hN
  clear hdat hd
  have HL : Hid (names (a ++ b).data.toList = names a.data.toList ++ names b.data.toList) := hN
  clear hN
  have hguard : (!a.toList.isEmpty) = false ∨ ∃ h : a.size - 1 < a.size, (!a.toList.isEmpty) = true ∧ (a[a.size - 1].toNat : Int) = 0 := by
    rcases hl with h0 | ⟨h0, h1⟩
    · exact .inl (by rw [empty_of h0]; rfl)
    · exact .inr ⟨h0, by rw [nonempty_of (by omega)]; rfl, by rw [h1]; rfl⟩
  generalize hS : a ++ b = s at hsz HL
  have hs : s.size ≤ 1048576 := by omega
  have ha2 : a.size ≤ 1048576 := by omega
  have hb2 : b.size ≤ 1048576 := by omega
  have hna := names_len a.data.toList
  have hnb := names_len b.data.toList
  have e1 : a.data.toList.length = a.size := rfl
  have e2 : b.data.toList.length = b.size := rfl
  rw [e1] at hna
  rw [e2] at hnb
  clear e1 e2
  have HSZ : Hid (s.size = a.size + b.size) := hsz
  clear hsz
  rcases hguard with hg | ⟨h1, hg, hg2⟩
  · simp only [Bool.not_eq_false'] at hg
    go_enter Try.func5, Try.ntmps5
    go_wp2_with (go_at_call 14; refine (zb_yes _ _ _ h).mono ?_; rintro e w' ⟨rfl, rfl⟩)
    refine (zznew_any _ _ hs).mono ?_
    rintro e w1 ⟨vs, rfl, L1, b1⟩
    go_wp2_with fail
    refine (zznew_any _ _ ha2).mono ?_
    rintro e w2 ⟨va, rfl, La2, b2⟩
    go_wp2_with fail
    refine (zznew_any _ _ hb2).mono ?_
    rintro e w3 ⟨vb, rfl, Lb, b3⟩
    have L := (L1.below b2 (Nat.le_refl _)).below b3 (Nat.le_refl _)
    have La := La2.below b3 (Nat.le_refl _)
    have B3 : Below w'.heap.size w' w3 := (b1.trans (b2.mono b1.size)).trans (b3.mono (Nat.le_trans b1.size b2.size))
    clear L1 La2 b1 b2 b3
    go_wp2_with fail
    refine (are_any _ _ _ ha2 La).mono ?_
    rintro e w4 ⟨rfl, n4, hw4⟩
    rw [hw4]
    clear hw4
    go_wp2_with fail
    refine (are_any _ _ _ hb2 (Lb.drewN n4)).mono ?_
    rintro e w5 ⟨rfl, n5, hw5⟩
    have L5 := (L.drewN n4).drewN n5
    have La5 := (La.drewN n4).drewN n5
    have Lb5 := (Lb.drewN n4).drewN n5
    have B5 := below_drewN (below_drewN B3 n4) n5
    rw [← hw5] at L5 La5 Lb5 B5
    clear hw5 L La Lb B3
    by_cases hs0 : s.size = 0
    · have he := empty_of hs0
      rcases L5 with ⟨_, rfl⟩ | ⟨hx, _⟩
      · go_wp2
        go_ret
        exact ⟨rfl, B5⟩
      · exact absurd hs0 (by omega)
    · have he := nonempty_of (s := s) (by omega)
      obtain ⟨bb, c, cap, rfl, hc0, hc1⟩ := L5.shape (by omega)
      have hcount : (((names s.data.toList).length : Nat) : Int) = ((names a.data.toList).length : Int) + ((names b.data.toList).length : Int) := by rw [HL.out, List.length_append]; omega
      go_wp2_with (first | (go_at_call 17; refine (joined_at _ _ _ hc0).mono ?_; rintro e w6 ⟨rfl, hw6⟩; rw [hw6]; clear hw6) | (go_at_call 19; refine (count_at _ _ _ _ _ hc1).mono ?_; rintro e w6 ⟨rfl, hw6⟩; rw [hw6]; clear hw6) | (go_at_call_of 18 va; refine (nameCount_of _ _ _ La5).mono ?_; rintro e w6 ⟨rfl, hw6⟩; rw [hw6]; clear hw6) | (go_at_call_of 18 vb; refine (nameCount_of _ _ _ Lb5).mono ?_; rintro e w6 ⟨rfl, hw6⟩; rw [hw6]; clear hw6))
      clear hcount hc0 hc1
      go_loopg [11] (names a.data.toList).length (fun g i wr => ∃ k : Nat, g + k = (names a.data.toList).length ∧ i = .int .i64 k ∧ wr = w5)
      case atStart => exact ⟨0, rfl, rfl, rfl⟩
      case round =>
        obtain ⟨k, hk, rfl, rfl⟩ := hrel
        by_cases hlt : k < (names a.data.toList).length
        · obtain ⟨x, hx, hxs⟩ := at_left HL.out hlt
          have HX : Hid _ := hx
          have HXS : Hid _ := hxs
          clear hx hxs
          go_wp2_with (first | (go_at_call_of 20 va; refine (name_of _ _ _ La5 k x HX.out).mono ?_; rintro e w6 ⟨rfl, hw6⟩; rw [hw6]; clear hw6) | (go_at_call_of 21 va; refine (key_of _ _ _ La5 k x HX.out).mono ?_; rintro e w6 ⟨rfl, hw6⟩; rw [hw6]; clear hw6) | (go_at_call 20; refine (name_of _ _ _ L5 k x HXS.out).mono ?_; rintro e w6 ⟨rfl, hw6⟩; rw [hw6]; clear hw6) | (go_at_call 21; refine (key_of _ _ _ L5 k x HXS.out).mono ?_; rintro e w6 ⟨rfl, hw6⟩; rw [hw6]; clear hw6))
          go_roundg ((names a.data.toList).length - (k + 1))
          case measure => omega
          case rel => exact ⟨k + 1, by omega, by go_num, rfl⟩
        · go_wp2
          go_loopg [12] (names b.data.toList).length (fun g i wr' => ∃ k : Nat, g + k = (names b.data.toList).length ∧ i = .int .i64 k ∧ wr' = wr)
          case atStart => exact ⟨0, rfl, rfl, rfl⟩
          case round =>
            obtain ⟨j, hj, rfl, hwr⟩ := hrel
            subst hwr
            by_cases hlj : j < (names b.data.toList).length
            · obtain ⟨x, hx, hxs⟩ := at_right HL.out hlj
              have HX : Hid _ := hx
              have HXS : Hid _ := hxs
              clear hx hxs
              go_wp2_with (first | (go_at_call_of 20 vb; refine (name_of _ _ _ Lb5 j x HX.out).mono ?_; rintro e w6 ⟨rfl, hw6⟩; rw [hw6]; clear hw6) | (go_at_call_of 21 vb; refine (key_of _ _ _ Lb5 j x HX.out).mono ?_; rintro e w6 ⟨rfl, hw6⟩; rw [hw6]; clear hw6) | (go_at_call 20; refine (name_of2 _ _ _ L5 _ j x HXS.out).mono ?_; rintro e w6 ⟨rfl, hw6⟩; rw [hw6]; clear hw6) | (go_at_call 21; refine (key_of2 _ _ _ L5 _ j x HXS.out).mono ?_; rintro e w6 ⟨rfl, hw6⟩; rw [hw6]; clear hw6))
              go_roundg ((names b.data.toList).length - (j + 1))
              case measure => omega
              case rel => exact ⟨j + 1, by omega, by go_num, rfl⟩
            · go_wp2
              go_ret
              exact ⟨rfl, B5⟩
  · simp only [Bool.not_eq_true'] at hg
    go_enter Try.func5, Try.ntmps5
    go_wp2_with (go_at_call 14; refine (zb_yes _ _ _ h).mono ?_; rintro e w' ⟨rfl, rfl⟩)
    refine (zznew_any _ _ hs).mono ?_
    rintro e w1 ⟨vs, rfl, L1, b1⟩
    go_wp2_with fail
    refine (zznew_any _ _ ha2).mono ?_
    rintro e w2 ⟨va, rfl, La2, b2⟩
    go_wp2_with fail
    refine (zznew_any _ _ hb2).mono ?_
    rintro e w3 ⟨vb, rfl, Lb, b3⟩
    have L := (L1.below b2 (Nat.le_refl _)).below b3 (Nat.le_refl _)
    have La := La2.below b3 (Nat.le_refl _)
    have B3 : Below w'.heap.size w' w3 := (b1.trans (b2.mono b1.size)).trans (b3.mono (Nat.le_trans b1.size b2.size))
    clear L1 La2 b1 b2 b3
    go_wp2_with fail
    refine (are_any _ _ _ ha2 La).mono ?_
    rintro e w4 ⟨rfl, n4, hw4⟩
    rw [hw4]
    clear hw4
    go_wp2_with fail
    refine (are_any _ _ _ hb2 (Lb.drewN n4)).mono ?_
    rintro e w5 ⟨rfl, n5, hw5⟩
    have L5 := (L.drewN n4).drewN n5
    have La5 := (La.drewN n4).drewN n5
    have Lb5 := (Lb.drewN n4).drewN n5
    have B5 := below_drewN (below_drewN B3 n4) n5
    rw [← hw5] at L5 La5 Lb5 B5
    clear hw5 L La Lb B3
    by_cases hs0 : s.size = 0
    · have he := empty_of hs0
      rcases L5 with ⟨_, rfl⟩ | ⟨hx, _⟩
      · go_wp2
        go_ret
        exact ⟨rfl, B5⟩
      · exact absurd hs0 (by omega)
    · have he := nonempty_of (s := s) (by omega)
      obtain ⟨bb, c, cap, rfl, hc0, hc1⟩ := L5.shape (by omega)
      have hcount : (((names s.data.toList).length : Nat) : Int) = ((names a.data.toList).length : Int) + ((names b.data.toList).length : Int) := by rw [HL.out, List.length_append]; omega
      go_wp2_with (first | (go_at_call 17; refine (joined_at _ _ _ hc0).mono ?_; rintro e w6 ⟨rfl, hw6⟩; rw [hw6]; clear hw6) | (go_at_call 19; refine (count_at _ _ _ _ _ hc1).mono ?_; rintro e w6 ⟨rfl, hw6⟩; rw [hw6]; clear hw6) | (go_at_call_of 18 va; refine (nameCount_of _ _ _ La5).mono ?_; rintro e w6 ⟨rfl, hw6⟩; rw [hw6]; clear hw6) | (go_at_call_of 18 vb; refine (nameCount_of _ _ _ Lb5).mono ?_; rintro e w6 ⟨rfl, hw6⟩; rw [hw6]; clear hw6))
      clear hcount hc0 hc1
      go_loopg [11] (names a.data.toList).length (fun g i wr => ∃ k : Nat, g + k = (names a.data.toList).length ∧ i = .int .i64 k ∧ wr = w5)
      case atStart => exact ⟨0, rfl, rfl, rfl⟩
      case round =>
        obtain ⟨k, hk, rfl, rfl⟩ := hrel
        by_cases hlt : k < (names a.data.toList).length
        · obtain ⟨x, hx, hxs⟩ := at_left HL.out hlt
          have HX : Hid _ := hx
          have HXS : Hid _ := hxs
          clear hx hxs
          go_wp2_with (first | (go_at_call_of 20 va; refine (name_of _ _ _ La5 k x HX.out).mono ?_; rintro e w6 ⟨rfl, hw6⟩; rw [hw6]; clear hw6) | (go_at_call_of 21 va; refine (key_of _ _ _ La5 k x HX.out).mono ?_; rintro e w6 ⟨rfl, hw6⟩; rw [hw6]; clear hw6) | (go_at_call 20; refine (name_of _ _ _ L5 k x HXS.out).mono ?_; rintro e w6 ⟨rfl, hw6⟩; rw [hw6]; clear hw6) | (go_at_call 21; refine (key_of _ _ _ L5 k x HXS.out).mono ?_; rintro e w6 ⟨rfl, hw6⟩; rw [hw6]; clear hw6))
          go_roundg ((names a.data.toList).length - (k + 1))
          case measure => omega
          case rel => exact ⟨k + 1, by omega, by go_num, rfl⟩
        · go_wp2
          go_loopg [12] (names b.data.toList).length (fun g i wr' => ∃ k : Nat, g + k = (names b.data.toList).length ∧ i = .int .i64 k ∧ wr' = wr)
          case atStart => exact ⟨0, rfl, rfl, rfl⟩
          case round =>
            obtain ⟨j, hj, rfl, hwr⟩ := hrel
            subst hwr
            by_cases hlj : j < (names b.data.toList).length
            · obtain ⟨x, hx, hxs⟩ := at_right HL.out hlj
              have HX : Hid _ := hx
              have HXS : Hid _ := hxs
              clear hx hxs
              go_wp2_with (first | (go_at_call_of 20 vb; refine (name_of _ _ _ Lb5 j x HX.out).mono ?_; rintro e w6 ⟨rfl, hw6⟩; rw [hw6]; clear hw6) | (go_at_call_of 21 vb; refine (key_of _ _ _ Lb5 j x HX.out).mono ?_; rintro e w6 ⟨rfl, hw6⟩; rw [hw6]; clear hw6) | (go_at_call 20; refine (name_of2 _ _ _ L5 _ j x HXS.out).mono ?_; rintro e w6 ⟨rfl, hw6⟩; rw [hw6]; clear hw6) | (go_at_call 21; refine (key_of2 _ _ _ L5 _ j x HXS.out).mono ?_; rintro e w6 ⟨rfl, hw6⟩; rw [hw6]; clear hw6))
              go_roundg ((names b.data.toList).length - (j + 1))
              case measure => omega
              case rel => exact ⟨j + 1, by omega, by go_num, rfl⟩
            · go_wp2
              go_ret
              exact ⟨rfl, B5⟩
end Go.Proofs.Qxb6617139a
