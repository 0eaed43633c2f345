import Derived.Test.Qxb6616410aHalf
namespace Go.Proofs.Qxb6616410a
open Go.RowKit Names

theorem ba_ext {a b : ByteArray} (h : a.data.toList = b.data.toList) : a = b := by
  cases a
  cases b
  simpa using h

theorem zzcall_at (p q : Int) (s r N A : ByteArray) (w : World) (hs : s.size ≤ 1048576) (h0 : 0 < s.size) (hN : ba (nm s.data.toList) = N) (hA : ba (s.data.toList.drop ((nm s.data.toList).length + 1)) = A) :
    Calls Try.prog 6 #[.int .i64 p, .string s, .int .i64 q, .string r] w fun e w' => e = .returned (.agg #[.int .i64 p, .string N, .string A, .string r, .string ⟨#[]⟩, .bool false]) ∧ Below w.heap.size w w' := by
  have h := zzcall_any p q s r w hs h0
  unfold callOf at h
  rw [hN, hA] at h
  exact h

theorem below_drewN {B : Nat} {a w : World} (h : Below B a w) (n : Nat) : Below B a (w.drewN n) := ⟨h.os, h.tape, h.output, h.size, h.block⟩

theorem zbe_yes (p q : Int) (t r x : ByteArray) (w : World) (h : t.size + r.size + x.size ≤ 1048576) :
    Calls Try.prog 10 #[.int .i64 p, .string t, .int .i64 q, .string r, .string x] w fun e w' => e = .returned (.bool true) ∧ w' = w := by
  go_enter Try.func10, Try.ntmps10
  go_wp2
  go_ret
  exact ⟨rfl, rfl⟩

theorem zbe_no (p q : Int) (t r x : ByteArray) (w : World) (h : 1048576 < t.size + r.size + x.size) (ht : t.size ≤ 9223372036854775807) (hr : r.size ≤ 9223372036854775807) (hx : x.size ≤ 9223372036854775807) :
    Calls Try.prog 10 #[.int .i64 p, .string t, .int .i64 q, .string r, .string x] w fun e w' => e = .returned (.bool false) ∧ w' = w := by
  by_cases h1 : t.size ≤ 1048576
  · by_cases h2 : r.size ≤ 1048576
    · by_cases h3 : t.size + r.size ≤ 1048576
      · by_cases h4 : x.size ≤ 1048576
        · go_enter Try.func10, Try.ntmps10
          go_wp2
          go_ret
          exact ⟨rfl, rfl⟩
        · go_enter Try.func10, Try.ntmps10
          go_wp2
          go_ret
          exact ⟨rfl, rfl⟩
      · go_enter Try.func10, Try.ntmps10
        go_wp2
        go_ret
        exact ⟨rfl, rfl⟩
    · go_enter Try.func10, Try.ntmps10
      go_wp2
      go_ret
      exact ⟨rfl, rfl⟩
  · go_enter Try.func10, Try.ntmps10
    go_wp2
    go_ret
    exact ⟨rfl, rfl⟩

theorem ext_long (p q : Int) (t r x : ByteArray) (w : World) (h : 1048576 < t.size + r.size + x.size) (ht : t.size ≤ maxLen) (hr : r.size ≤ maxLen) (hx : x.size ≤ maxLen) :
    Calls Try.prog 4 #[.int .i64 p, .string t, .int .i64 q, .string r, .string x] w fun e w' => e = .returned (.bool true) ∧ Below w.heap.size w w' := by
  unfold maxLen at ht hr hx
  go_enter Try.func4, Try.ntmps4
  go_wp2_with (go_at_call 10; refine (zbe_no _ _ _ _ _ _ h ht hr hx).mono ?_; rintro e w' ⟨rfl, rfl⟩)
  go_ret
  exact ⟨rfl, Below.refl _ _⟩

theorem ext_no (p q : Int) (t r x : ByteArray) (w : World) (h : t.size + r.size + x.size ≤ 1048576) (hp : hasP t.data.toList = false) :
    Calls Try.prog 4 #[.int .i64 p, .string t, .int .i64 q, .string r, .string x] w fun e w' => e = .returned (.bool true) ∧ Below w.heap.size w w' := by
  have ht : t.size ≤ 1048576 := by omega
  go_enter Try.func4, Try.ntmps4
  go_wp2_with (first | (go_at_call 10; refine (zbe_yes _ _ _ _ _ _ h).mono ?_; rintro e w' ⟨rfl, rfl⟩) | (go_at_call 8; refine (hasByte_any _ _ ht).mono ?_; rintro e w' ⟨rfl, rfl⟩))
  go_ret
  exact ⟨rfl, Below.refl _ _⟩

theorem pos_of_hasP {t : ByteArray} (h : hasP t.data.toList = true) : 0 < t.size := by
  by_cases h0 : t.size = 0
  · rw [List.eq_nil_of_length_eq_zero (show t.data.toList.length = 0 from h0)] at h
    simp [hasP] at h
  · omega

theorem sizes_le (t : ByteArray) {N A : ByteArray} (h0 : 0 < t.size) (hN : ba (nm t.data.toList) = N) (hA : ba (t.data.toList.drop ((nm t.data.toList).length + 1)) = A) : N.size ≤ t.size ∧ A.size ≤ t.size := by
  have h1 := nm_lt _ (ne_of_pos h0)
  have h2 : t.data.toList.length = t.size := rfl
  have h3 : N.size = (nm t.data.toList).length := by rw [← hN]; rfl
  have h4 : A.size = (t.data.toList.drop ((nm t.data.toList).length + 1)).length := by rw [← hA]; rfl
  rw [List.length_drop] at h4
  omega

set_option maxHeartbeats 1000000 in
theorem ext_yes (p q : Int) (t r x : ByteArray) (w : World) (h : t.size + r.size + x.size ≤ 1048576) (hp : hasP t.data.toList = true) :
    Calls Try.prog 4 #[.int .i64 p, .string t, .int .i64 q, .string r, .string x] w fun e w' => e = .returned (.bool true) ∧ Below w.heap.size w w' := by
  have ht : t.size ≤ 1048576 := by omega
  have h0 := pos_of_hasP hp
  obtain ⟨N, hN⟩ : ∃ N, ba (nm t.data.toList) = N := ⟨_, rfl⟩
  obtain ⟨A, hA⟩ : ∃ A, ba (t.data.toList.drop ((nm t.data.toList).length + 1)) = A := ⟨_, rfl⟩
  obtain ⟨hNs, hAs⟩ := sizes_le t h0 hN hA
  have hd2 : (t ++ x).data.toList = t.data.toList ++ x.data.toList := by simp
  have hn2 : nm (t ++ x).data.toList = nm t.data.toList := by rw [hd2, nm_append _ _ hp]
  have hN2 : ba (nm (t ++ x).data.toList) = N := by rw [hn2, hN]
  have hA2 : ba ((t ++ x).data.toList.drop ((nm (t ++ x).data.toList).length + 1)) = A ++ x := by
    rw [hn2, hd2, drop_append_le _ _ _ (nm_lt _ (ne_of_pos h0)), ← hA]
    apply ba_ext
    simp [ba]
  have hz2 : (t ++ x).size ≤ 1048576 := by simp; omega
  have hp2 : 0 < (t ++ x).size := by simp; omega
  have HN : Hid (ba (nm t.data.toList) = N) := hN
  have HA : Hid (ba (t.data.toList.drop ((nm t.data.toList).length + 1)) = A) := hA
  have HN2 : Hid (ba (nm (t ++ x).data.toList) = N) := hN2
  have HA2 : Hid (ba ((t ++ x).data.toList.drop ((nm (t ++ x).data.toList).length + 1)) = A ++ x) := hA2
  have hcase : (N.toList.isEmpty = true ∧ t.extract 1 t.size = A) ∨ (N.toList.isEmpty = false ∧ N ++ (⟨#[40]⟩ : ByteArray) ++ A = t) := by
    by_cases hn : nm t.data.toList = []
    · left
      refine ⟨by rw [← hN, hn, Lib.toList_data]; rfl, ?_⟩
      rw [extract_ba, ← hA, hn, List.take_of_length_le (by simp)]
      rfl
    · right
      refine ⟨?_, ?_⟩
      · rw [← hN, Lib.toList_data]
        simpa [ba] using hn
      · have e := nm_split _ hn
        apply ba_ext
        rw [← hN, ← hA]
        simp only [ba]
        simpa using e.symm
  clear hN hA hN2 hA2 hd2 hn2
  generalize hS : t ++ x = s2 at *
  rcases hcase with ⟨hc, he⟩ | ⟨hc, he⟩
  · go_enter Try.func4, Try.ntmps4
    go_wp2_with (first | (go_at_call 10; refine (zbe_yes _ _ _ _ _ _ h).mono ?_; rintro e w' ⟨rfl, rfl⟩) | (go_at_call 8; refine (hasByte_any _ _ ht).mono ?_; rintro e w' ⟨rfl, rfl⟩))
    refine (zzcall_at _ _ _ _ N A _ ht h0 HN.out HA.out).mono ?_
    rintro e w1 ⟨rfl, hb1⟩
    go_wp2_with fail
    refine (zzcall_at _ _ _ _ N (A ++ x) _ hz2 hp2 HN2.out HA2.out).mono ?_
    rintro e w2 ⟨rfl, hb2⟩
    obtain ⟨hc2, hf2⟩ := bcell hb2
    have hz : w1.heap.size < w2.heap.size := by have := hb2.size; simp at this; omega
    go_wp2
    go_quiet (fail)
    go_wp2
    go_ret
    exact ⟨ret_bool (by simp), ((hb1.trans (((Below.refl _ w1).alloc hb1.size _).trans (hb2.mono (by have := hb1.size; simp; omega)))).trans (((Below.refl _ w2).alloc (by have := hb1.size; omega) _))).trans (below_drewN (Below.refl _ _) _)⟩
  · go_enter Try.func4, Try.ntmps4
    go_wp2_with (first | (go_at_call 10; refine (zbe_yes _ _ _ _ _ _ h).mono ?_; rintro e w' ⟨rfl, rfl⟩) | (go_at_call 8; refine (hasByte_any _ _ ht).mono ?_; rintro e w' ⟨rfl, rfl⟩))
    refine (zzcall_at _ _ _ _ N A _ ht h0 HN.out HA.out).mono ?_
    rintro e w1 ⟨rfl, hb1⟩
    go_wp2_with fail
    refine (zzcall_at _ _ _ _ N (A ++ x) _ hz2 hp2 HN2.out HA2.out).mono ?_
    rintro e w2 ⟨rfl, hb2⟩
    obtain ⟨hc2, hf2⟩ := bcell hb2
    have hz : w1.heap.size < w2.heap.size := by have := hb2.size; simp at this; omega
    go_wp2
    go_ret
    exact ⟨ret_bool (by simp), (hb1.trans (((Below.refl _ w1).alloc hb1.size _).trans (hb2.mono (by have := hb1.size; simp; omega)))).trans (((Below.refl _ w2).alloc (by have := hb1.size; omega) _))⟩
end Go.Proofs.Qxb6616410a
