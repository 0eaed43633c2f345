import Derived.Test.Qxb6616410aCall
import Derived.Test.Qxb6616410aExt
namespace Go.Proofs.Qxb6616410a
open Go.RowKit Names

theorem zbs_yes (p q : Int) (t r : ByteArray) (w : World) (h : t.size + r.size ≤ 1048576) :
    Calls Try.prog 5 #[.int .i64 p, .string t, .int .i64 q, .string r] w fun e w' => e = .returned (.bool true) ∧ w' = w := by
  go_enter Try.func5, Try.ntmps5
  go_wp2
  go_ret
  exact ⟨rfl, rfl⟩

theorem zbs_no (p q : Int) (t r : ByteArray) (w : World) (h : 1048576 < t.size + r.size) (ht : t.size ≤ 9223372036854775807) (hr : r.size ≤ 9223372036854775807) :
    Calls Try.prog 5 #[.int .i64 p, .string t, .int .i64 q, .string r] w fun e w' => e = .returned (.bool false) ∧ w' = w := by
  by_cases h1 : t.size ≤ 1048576
  · by_cases h2 : r.size ≤ 1048576
    · go_enter Try.func5, Try.ntmps5
      go_wp2
      go_ret
      exact ⟨rfl, rfl⟩
    · go_enter Try.func5, Try.ntmps5
      go_wp2
      go_ret
      exact ⟨rfl, rfl⟩
  · go_enter Try.func5, Try.ntmps5
    go_wp2
    go_ret
    exact ⟨rfl, rfl⟩

theorem named_any (s : ByteArray) (w : World) (hs : s.size ≤ 1048576) : Calls Try.prog 7 #[.string s] w fun e w' => e = .returned (.bool (hasP s.data.toList && nameB (upTo s.data.toList))) ∧ w' = w := by
  go_enter Try.func7, Try.ntmps7
  go_wp2
  go_loopg [3] s.size (fun g i wr => ∃ k : Nat, g + k = s.size ∧ i = .int .i64 k ∧ hasP (s.data.toList.take k) = false ∧ wr = w)
  case atStart => exact ⟨0, rfl, rfl, rfl, rfl⟩
  case round =>
    obtain ⟨k, hk, rfl, hall, rfl⟩ := hrel
    have HA : Hid (hasP (s.data.toList.take k) = false) := hall
    clear hall
    by_cases hlt : k < s.size
    · cases hc : ((s[k].toNat : Int) == 40) with
      | true =>
        have hx : (s.extract 0 k).size ≤ 1048576 := by simp; omega
        have hd : (s.extract 0 k).data.toList = upTo s.data.toList := by rw [hit_upTo s k hlt HA.out hc, extract_ba]; simp [ba]
        have HD : Hid ((s.extract 0 k).data.toList = upTo s.data.toList) := hd
        clear hd
        go_wp2_with (go_at_call 9; refine (isCallName_any _ _ hx).mono ?_; rintro e w' ⟨rfl, hw⟩; rw [hw, HD.out]; clear hw)
        go_ret
        exact ⟨ret_bool (by rw [← hit_hasP s k hlt hc]; rfl), rfl⟩
      | false =>
        go_wp2
        go_roundg (s.size - (k + 1))
        case measure => omega
        case rel => exact ⟨k + 1, by omega, by go_num, take_hasP s k hlt HA.out hc, rfl⟩
    · go_wp2
      go_ret
      exact ⟨ret_bool (by rw [miss_hasP s k (by omega) HA.out]; rfl), rfl⟩

theorem named_no (s : ByteArray) (w : World) (hs : s.size ≤ 1048576) (hn : (hasP s.data.toList && nameB (upTo s.data.toList)) = false) : Calls Try.prog 7 #[.string s] w fun e w' => e = .returned (.bool false) ∧ w' = w := by
  have := named_any s w hs
  rwa [hn] at this

theorem split_long (p q : Int) (t r : ByteArray) (w : World) (h : 1048576 < t.size + r.size) (ht : t.size ≤ maxLen) (hr : r.size ≤ maxLen) :
    Calls Try.prog 3 #[.int .i64 p, .string t, .int .i64 q, .string r] w fun e w' => e = .returned (.bool true) ∧ Below w.heap.size w w' := by
  unfold maxLen at ht hr
  go_enter Try.func3, Try.ntmps3
  go_wp2_with (go_at_call 5; refine (zbs_no _ _ _ _ _ h ht hr).mono ?_; rintro e w' ⟨rfl, rfl⟩)
  go_ret
  exact ⟨rfl, Below.refl _ _⟩

theorem split_empty (p q : Int) (t r : ByteArray) (w : World) (h : t.size + r.size ≤ 1048576) (h0 : t.size = 0) :
    Calls Try.prog 3 #[.int .i64 p, .string t, .int .i64 q, .string r] w fun e w' => e = .returned (.bool true) ∧ Below w.heap.size w w' := by
  have he := empty_of h0
  have hz : t.size ≤ 0 := by omega
  clear h0
  go_enter Try.func3, Try.ntmps3
  go_wp2_with (go_at_call 5; refine (zbs_yes _ _ _ _ _ h).mono ?_; rintro e w' ⟨rfl, rfl⟩)
  go_ret
  exact ⟨rfl, Below.refl _ _⟩

set_option maxHeartbeats 1000000 in
theorem split_main (p q : Int) (t r : ByteArray) (w : World) (h : t.size + r.size ≤ 1048576) (h0 : 0 < t.size) :
    Calls Try.prog 3 #[.int .i64 p, .string t, .int .i64 q, .string r] w fun e w' => e = .returned (.bool true) ∧ Below w.heap.size w w' := by
  have ht : t.size ≤ 1048576 := by omega
  have hte := nonempty_of h0
  obtain ⟨N, hN⟩ : ∃ N, ba (nm t.data.toList) = N := ⟨_, rfl⟩
  obtain ⟨A, hA⟩ : ∃ A, ba (t.data.toList.drop ((nm t.data.toList).length + 1)) = A := ⟨_, rfl⟩
  obtain ⟨hNs, hAs⟩ := sizes_le t h0 hN hA
  have HN : Hid (ba (nm t.data.toList) = N) := hN
  have HA : Hid (ba (t.data.toList.drop ((nm t.data.toList).length + 1)) = A) := hA
  have hcase : (N.toList.isEmpty = true ∧ t.extract 1 t.size = A ∧ (hasP t.data.toList && nameB (upTo t.data.toList)) = false) ∨ (N.toList.isEmpty = false ∧ N ++ (⟨#[40]⟩ : ByteArray) ++ A = t ∧ hasP N.data.toList = false ∧ nameB N.data.toList = true) := by
    by_cases hn : nm t.data.toList = []
    · left
      refine ⟨by rw [← hN, hn, Lib.toList_data]; rfl, ?_, nm_nil _ hn⟩
      rw [extract_ba, ← hA, hn, List.take_of_length_le (by simp)]
      rfl
    · right
      obtain ⟨_, h2, h3⟩ := nm_ne _ hn
      have hd : N.data.toList = upTo t.data.toList := by rw [← hN, ← h3]; simp [ba]
      refine ⟨?_, ?_, by rw [hd]; exact upTo_noP _, by rw [hd]; exact h2⟩
      · rw [← hN, Lib.toList_data]
        simpa [ba] using hn
      · have e := nm_split _ hn
        apply ba_ext
        rw [← hN, ← hA]
        simp only [ba]
        simpa using e.symm
  clear hN hA
  rcases hcase with ⟨hc, he, hn⟩ | ⟨hc, he, hn1, hn2⟩
  · have HNO : Hid ((hasP t.data.toList && nameB (upTo t.data.toList)) = false) := hn
    clear hn
    go_enter Try.func3, Try.ntmps3
    go_wp2_with (go_at_call 5; refine (zbs_yes _ _ _ _ _ h).mono ?_; rintro e w' ⟨rfl, rfl⟩)
    refine (zzcall_at _ _ _ _ N A _ ht h0 HN.out HA.out).mono ?_
    rintro e w1 ⟨rfl, hb1⟩
    go_wp2
    go_quiet ((go_at_call 7; exact Calls.quiet_of_same (named_no _ _ ht HNO.out)))
    go_wp2
    go_ret
    exact ⟨ret_bool (by simp), below_drewN (hb1.alloc hb1.size _) _⟩
  · have hN2 : N.size ≤ 1048576 := by omega
    go_enter Try.func3, Try.ntmps3
    go_wp2_with (go_at_call 5; refine (zbs_yes _ _ _ _ _ h).mono ?_; rintro e w' ⟨rfl, rfl⟩)
    refine (zzcall_at _ _ _ _ N A _ ht h0 HN.out HA.out).mono ?_
    rintro e w1 ⟨rfl, hb1⟩
    go_wp2_with (first | (go_at_call 8; refine (hasByte_any _ _ hN2).mono ?_; rintro e w2 ⟨rfl, hw⟩; rw [hw]; clear hw) | (go_at_call 9; refine (isCallName_any _ _ hN2).mono ?_; rintro e w2 ⟨rfl, hw⟩; rw [hw]; clear hw))
    go_ret
    exact ⟨ret_bool (by simp), hb1.alloc hb1.size _⟩
end Go.Proofs.Qxb6616410a
