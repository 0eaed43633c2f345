import Derived.Test.Qxb6616410aRows
import Derived.Test.Qxb6616410aShelf
import Derived.Test.Qxb6616410aPlain
import Derived.WalkKit
import Derived.WalkMore
import Derived.WalkSpells
import Derived.WalkLawsBesides
import Derived.Deep.QuietTactic
import Derived.BigQuiet
import Derived.Deep.LoopGhost
import Derived.Deep.RegionWith
import Derived.Deep.DeepFit
namespace Go.Proofs.Qxb6616410a
open Go.RowKit Names

theorem ret_bool {a b : Bool} (h : a = b) : Ending.returned (.bool a) = .returned (.bool b) := by rw [h]
/-- a text as bytes -/
def ba (l : List UInt8) : ByteArray := ⟨l.toArray⟩
theorem extract_ba (s : ByteArray) (a b : Nat) : s.extract a b = ba ((s.data.toList.drop a).take (b - a)) := by
  have h := Lib.extract_data s a b
  unfold ba
  rw [← h]
theorem empty_of {s : ByteArray} (h : s.size = 0) : s.toList.isEmpty = true := by
  rw [Lib.toList_data]
  have : s.data.toList.length = 0 := h
  rw [List.eq_nil_of_length_eq_zero this]
  rfl
theorem nonempty_of {s : ByteArray} (h : 0 < s.size) : s.toList.isEmpty = false := by
  rw [Lib.toList_data]
  have h2 : s.data.toList.length = s.size := rfl
  have : s.data.toList ≠ [] := fun h3 => by rw [h3] at h2; simp at h2; omega
  simpa using this

theorem digit_any (c : Int) (w : World) : Calls Try.prog 16 #[.int .u8 c] w fun e w' => e = .returned (.bool (digB c)) ∧ w' = w := by
  go_enter Try.func16, Try.ntmps16
  go_wp2
  all_goals
    go_ret
    exact ⟨ret_bool (by unfold digB; rw [Bool.eq_iff_iff]; simp; omega), rfl⟩

theorem upper_any (c : Int) (w : World) : Calls Try.prog 19 #[.int .u8 c] w fun e w' => e = .returned (.bool (upB c)) ∧ w' = w := by
  go_enter Try.func19, Try.ntmps19
  go_wp2
  all_goals
    go_ret
    exact ⟨ret_bool (by unfold upB; rw [Bool.eq_iff_iff]; simp; omega), rfl⟩

theorem alnum_any (c : Int) (w : World) : Calls Try.prog 17 #[.int .u8 c] w fun e w' => e = .returned (.bool (alB c)) ∧ w' = w := by
  by_cases h1 : 48 ≤ c ∧ c ≤ 57
  · have hd : digB c = true := by simp [digB, h1]
    go_enter Try.func17, Try.ntmps17
    go_wp2_with (first | (go_at_call 16; refine (digit_any _ _).mono ?_; rintro e w' ⟨rfl, rfl⟩) | (go_at_call 19; refine (upper_any _ _).mono ?_; rintro e w' ⟨rfl, rfl⟩))
    go_ret
    exact ⟨ret_bool (by unfold alB; simp [h1]), rfl⟩
  · have hd : digB c = false := by simp [digB, h1]
    by_cases h2 : 65 ≤ c ∧ c ≤ 90
    · have hu : upB c = true := by simp [upB, h2]
      go_enter Try.func17, Try.ntmps17
      go_wp2_with (first | (go_at_call 16; refine (digit_any _ _).mono ?_; rintro e w' ⟨rfl, rfl⟩) | (go_at_call 19; refine (upper_any _ _).mono ?_; rintro e w' ⟨rfl, rfl⟩))
      go_ret
      exact ⟨ret_bool (by unfold alB; simp [h2]), rfl⟩
    · have hu : upB c = false := by simp [upB, h2]
      go_enter Try.func17, Try.ntmps17
      go_wp2_with (first | (go_at_call 16; refine (digit_any _ _).mono ?_; rintro e w' ⟨rfl, rfl⟩) | (go_at_call 19; refine (upper_any _ _).mono ?_; rintro e w' ⟨rfl, rfl⟩))
      all_goals
        go_ret
        exact ⟨ret_bool (by unfold alB; rw [Bool.eq_iff_iff]; simp; omega), rfl⟩

theorem snoc_yes (s : ByteArray) (k : Nat) (h : k < s.size) (ha : allB (s.data.toList.take k) = true) (hc : okB s[k].toNat = true) : allB (s.data.toList.take (k + 1)) = true := by
  have hl : k < s.data.toList.length := h
  unfold allB at *
  rw [List.take_succ_eq_append_getElem hl, List.all_append, ha]
  have : s.data.toList[k] = s[k] := rfl
  simp [this, hc]

theorem name_q (s : ByteArray) (h : (s.toList == [63, 63, 63]) = true) : true = nameB s.data.toList := by
  rw [Lib.toList_data] at h
  unfold nameB
  rw [h]
  rfl

theorem shape_l (l : List UInt8) (c : UInt8) (h : (l == [63, 63, 63]) = false) (hc : l.head? = some c) : nameB l = (!digB c.toNat && allB l) := by
  unfold nameB
  rw [h]
  cases l with
  | nil => simp at hc
  | cons d l =>
    simp at hc
    simp [hc]

theorem name_shape (s : ByteArray) (h : (s.toList == [63, 63, 63]) = false) (h0 : 0 < s.size) : nameB s.data.toList = (!digB s[0].toNat && allB s.data.toList) := by
  rw [Lib.toList_data] at h
  have hl : 0 < s.data.toList.length := h0
  refine shape_l _ _ h ?_
  rw [List.head?_eq_getElem?, List.getElem?_eq_getElem hl]
  rfl

theorem name_bad (s : ByteArray) (k : Nat) (h : (s.toList == [63, 63, 63]) = false) (hk : k < s.size) (hc : okB s[k].toNat = false) : false = nameB s.data.toList := by
  rw [name_shape s h (by omega)]
  have : allB s.data.toList = false := by
    unfold allB
    rw [List.all_eq_false]
    refine ⟨s[k], ?_, by rw [hc]; decide⟩
    exact List.mem_iff_getElem.2 ⟨k, hk, rfl⟩
  rw [this, Bool.and_false]

theorem name_good (s : ByteArray) (k : Nat) (h : (s.toList == [63, 63, 63]) = false) (h0 : 0 < s.size) (hd : digB s[0].toNat = false) (hk : s.size ≤ k) (ha : allB (s.data.toList.take k) = true) : true = nameB s.data.toList := by
  rw [name_shape s h h0, hd]
  rw [List.take_of_length_le (by simpa using hk)] at ha
  rw [ha]
  rfl

set_option maxHeartbeats 400000 in
theorem isName_any (s : ByteArray) (w : World) (hs : s.size ≤ 1048576) : Calls Try.prog 14 #[.string s] w fun e w' => e = .returned (.bool (nameB s.data.toList)) ∧ w' = w := by
  cases hq : (s.toList == [63, 63, 63]) with
  | true =>
    go_enter Try.func14, Try.ntmps14
    go_wp2
    go_ret
    exact ⟨ret_bool (name_q s hq), rfl⟩
  | false =>
    by_cases h0 : s.size = 0
    · have he := empty_of h0
      have hn : nameB s.data.toList = false := by rw [List.eq_nil_of_length_eq_zero h0]; rfl
      clear h0
      go_enter Try.func14, Try.ntmps14
      go_wp2
      go_ret
      exact ⟨ret_bool hn.symm, rfl⟩
    · have he := nonempty_of (s := s) (by omega)
      have hp : 0 < s.size := by omega
      cases hd : digB s[0].toNat with
      | true =>
        go_enter Try.func14, Try.ntmps14
        go_wp2_with (go_at_call 16; refine (digit_any _ _).mono ?_; rintro e w' ⟨rfl, rfl⟩)
        go_ret
        exact ⟨ret_bool (by rw [name_shape s hq hp, hd]; rfl), rfl⟩
      | false =>
        go_enter Try.func14, Try.ntmps14
        go_wp2_with (go_at_call 16; refine (digit_any _ _).mono ?_; rintro e w' ⟨rfl, rfl⟩)
        go_loopg [3] s.size (fun g i wr => ∃ k : Nat, g + k = s.size ∧ i = .int .i64 k ∧ allB (s.data.toList.take k) = true ∧ wr = w')
        case atStart => exact ⟨0, rfl, rfl, rfl, rfl⟩
        case round =>
          obtain ⟨k, hk, rfl, hall, rfl⟩ := hrel
          have HA : Hid (allB (s.data.toList.take k) = true) := hall
          clear hall
          by_cases hlt : k < s.size
          · cases ha : alB s[k].toNat with
            | true =>
              have hok : okB s[k].toNat = true := by unfold alB at ha; unfold okB; simp at ha ⊢; omega
              go_wp2_with (go_at_call 17; refine (alnum_any _ _).mono ?_; rintro e w' ⟨rfl, hw⟩; rw [hw]; clear hw)
              go_roundg (s.size - (k + 1))
              case measure => omega
              case rel => exact ⟨k + 1, by omega, by go_num, snoc_yes s k hlt HA.out hok, rfl⟩
            | false =>
              by_cases h95 : (s[k].toNat : Int) = 95
              · have hok : okB s[k].toNat = true := by unfold okB; simp; omega
                have h95' : ((s[k].toNat : Int) == 95) = true := by rw [h95]; rfl
                clear h95
                go_wp2_with (go_at_call 17; refine (alnum_any _ _).mono ?_; rintro e w' ⟨rfl, hw⟩; rw [hw]; clear hw)
                go_roundg (s.size - (k + 1))
                case measure => omega
                case rel => exact ⟨k + 1, by omega, by go_num, snoc_yes s k hlt HA.out hok, rfl⟩
              · have hok : okB s[k].toNat = false := by unfold alB at ha; unfold okB; simp at ha ⊢; omega
                have h95' : ((s[k].toNat : Int) == 95) = false := by simpa using h95
                clear h95
                go_wp2_with (go_at_call 17; refine (alnum_any _ _).mono ?_; rintro e w' ⟨rfl, hw⟩; rw [hw]; clear hw)
                go_ret
                exact ⟨ret_bool (name_bad s k hq hlt hok), rfl⟩
          · go_wp2
            go_ret
            exact ⟨ret_bool (name_good s k hq hp hd (by omega) HA.out), rfl⟩
end Go.Proofs.Qxb6616410a
