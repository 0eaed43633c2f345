import Derived.Test.Qxb6616410aLeaf
namespace Go.Proofs.Qxb6616410a
open Go.RowKit Names

theorem byte_range (x : Int) : (x < 48 ∧ True ∧ decide (x ≤ 57) = true ∧ decide (x ≤ 90) = true ∧ decide (x ≤ 122) = true ∧ (x == 95) = false ∧ okB x = false) ∨
    (48 ≤ x ∧ x ≤ 57 ∧ decide (x ≤ 57) = true ∧ decide (x ≤ 90) = true ∧ decide (x ≤ 122) = true ∧ (x == 95) = false ∧ okB x = true) ∨
    (57 < x ∧ x < 65 ∧ decide (x ≤ 57) = false ∧ decide (x ≤ 90) = true ∧ decide (x ≤ 122) = true ∧ (x == 95) = false ∧ okB x = false) ∨
    (65 ≤ x ∧ x ≤ 90 ∧ decide (x ≤ 57) = false ∧ decide (x ≤ 90) = true ∧ decide (x ≤ 122) = true ∧ (x == 95) = false ∧ okB x = true) ∨
    (90 < x ∧ x < 95 ∧ decide (x ≤ 57) = false ∧ decide (x ≤ 90) = false ∧ decide (x ≤ 122) = true ∧ (x == 95) = false ∧ okB x = false) ∨
    (95 ≤ x ∧ x ≤ 95 ∧ decide (x ≤ 57) = false ∧ decide (x ≤ 90) = false ∧ decide (x ≤ 122) = true ∧ (x == 95) = true ∧ okB x = true) ∨
    (95 < x ∧ x < 97 ∧ decide (x ≤ 57) = false ∧ decide (x ≤ 90) = false ∧ decide (x ≤ 122) = true ∧ (x == 95) = false ∧ okB x = false) ∨
    (97 ≤ x ∧ x ≤ 122 ∧ decide (x ≤ 57) = false ∧ decide (x ≤ 90) = false ∧ decide (x ≤ 122) = true ∧ (x == 95) = false ∧ okB x = true) ∨
    (122 < x ∧ True ∧ decide (x ≤ 57) = false ∧ decide (x ≤ 90) = false ∧ decide (x ≤ 122) = false ∧ (x == 95) = false ∧ okB x = false) := by
  have h : (x < 48) ∨ (48 ≤ x ∧ x ≤ 57) ∨ (57 < x ∧ x < 65) ∨ (65 ≤ x ∧ x ≤ 90) ∨ (90 < x ∧ x < 95) ∨ (95 ≤ x ∧ x ≤ 95) ∨ (95 < x ∧ x < 97) ∨ (97 ≤ x ∧ x ≤ 122) ∨ (122 < x) := by omega
  rcases h with h | h | h | h | h | h | h | h | h
  · exact .inl ⟨h, trivial, decide_eq_true (by omega), decide_eq_true (by omega), decide_eq_true (by omega), by simp; omega, by unfold okB; exact decide_eq_false (by omega)⟩
  · exact .inr (.inl ⟨h.1, h.2, decide_eq_true (by omega), decide_eq_true (by omega), decide_eq_true (by omega), by simp; omega, by unfold okB; exact decide_eq_true (by omega)⟩)
  · exact .inr (.inr (.inl ⟨h.1, h.2, decide_eq_false (by omega), decide_eq_true (by omega), decide_eq_true (by omega), by simp; omega, by unfold okB; exact decide_eq_false (by omega)⟩))
  · exact .inr (.inr (.inr (.inl ⟨h.1, h.2, decide_eq_false (by omega), decide_eq_true (by omega), decide_eq_true (by omega), by simp; omega, by unfold okB; exact decide_eq_true (by omega)⟩)))
  · exact .inr (.inr (.inr (.inr (.inl ⟨h.1, h.2, decide_eq_false (by omega), decide_eq_false (by omega), decide_eq_true (by omega), by simp; omega, by unfold okB; exact decide_eq_false (by omega)⟩))))
  · exact .inr (.inr (.inr (.inr (.inr (.inl ⟨h.1, h.2, decide_eq_false (by omega), decide_eq_false (by omega), decide_eq_true (by omega), by simp; omega, by unfold okB; exact decide_eq_true (by omega)⟩)))))
  · exact .inr (.inr (.inr (.inr (.inr (.inr (.inl ⟨h.1, h.2, decide_eq_false (by omega), decide_eq_false (by omega), decide_eq_true (by omega), by simp; omega, by unfold okB; exact decide_eq_false (by omega)⟩))))))
  · exact .inr (.inr (.inr (.inr (.inr (.inr (.inr (.inl ⟨h.1, h.2, decide_eq_false (by omega), decide_eq_false (by omega), decide_eq_true (by omega), by simp; omega, by unfold okB; exact decide_eq_true (by omega)⟩)))))))
  · exact .inr (.inr (.inr (.inr (.inr (.inr (.inr (.inr (⟨h, trivial, decide_eq_false (by omega), decide_eq_false (by omega), decide_eq_false (by omega), by simp; omega, by unfold okB; exact decide_eq_false (by omega)⟩))))))))

set_option maxHeartbeats 1000000 in
theorem isCallName_any (s : ByteArray) (w : World) (hs : s.size ≤ 1048576) : Calls Try.prog 9 #[.string s] w fun e w' => e = .returned (.bool (nameB s.data.toList)) ∧ w' = w := by
  cases hq : (s.toList == [63, 63, 63]) with
  | true =>
    go_enter Try.func9, Try.ntmps9
    go_wp2
    go_ret
    exact ⟨ret_bool (name_q s hq), rfl⟩
  | false =>
    by_cases h0 : s.size = 0
    · have he := empty_of h0
      have hn : nameB s.data.toList = false := by rw [List.eq_nil_of_length_eq_zero h0]; rfl
      clear h0
      go_enter Try.func9, Try.ntmps9
      go_wp2
      go_ret
      exact ⟨ret_bool hn.symm, rfl⟩
    · have he := nonempty_of (s := s) (by omega)
      have hp : 0 < s.size := by omega
      by_cases hd : 48 ≤ (s[0].toNat : Int) ∧ (s[0].toNat : Int) ≤ 57
      · obtain ⟨hd1, hd2⟩ := hd
        have hdb : digB s[0].toNat = true := by unfold digB; simp; omega
        go_enter Try.func9, Try.ntmps9
        go_wp2
        go_ret
        exact ⟨ret_bool (by rw [name_shape s hq hp, hdb]; rfl), rfl⟩
      · have hdb : digB s[0].toNat = false := by unfold digB; simp; omega
        go_enter Try.func9, Try.ntmps9
        go_wp2
        all_goals
          go_loopg [3] s.size (fun g i wr => ∃ k : Nat, g + k = s.size ∧ i = .int .i64 k ∧ allB (s.data.toList.take k) = true ∧ wr = w)
          case atStart => exact ⟨0, rfl, rfl, rfl, rfl⟩
          case round =>
            obtain ⟨k, hk, rfl, hall, rfl⟩ := hrel
            have HA : Hid (allB (s.data.toList.take k) = true) := hall
            clear hall
            by_cases hlt : k < s.size
            · rcases byte_range s[k].toNat with ⟨h1, h2, h3, h4, h5, h6, hok⟩ | ⟨h1, h2, h3, h4, h5, h6, hok⟩ | ⟨h1, h2, h3, h4, h5, h6, hok⟩ | ⟨h1, h2, h3, h4, h5, h6, hok⟩ | ⟨h1, h2, h3, h4, h5, h6, hok⟩ | ⟨h1, h2, h3, h4, h5, h6, hok⟩ | ⟨h1, h2, h3, h4, h5, h6, hok⟩ | ⟨h1, h2, h3, h4, h5, h6, hok⟩ | ⟨h1, h2, h3, h4, h5, h6, hok⟩
              all_goals
                go_wp2
                first
                | (go_ret
                   exact ⟨ret_bool (name_bad s k hq hlt hok), rfl⟩)
                | (go_roundg (s.size - (k + 1))
                   case measure => omega
                   case rel => exact ⟨k + 1, by omega, by go_num, snoc_yes s k hlt HA.out hok, rfl⟩)
            · go_wp2
              go_ret
              exact ⟨ret_bool (name_good s k hq hp hdb (by omega) HA.out), rfl⟩
end Go.Proofs.Qxb6616410a
