import Derived.Test.Qxb6617139aRows
import Derived.WalkKit
import Derived.WalkMore
import Derived.WalkSpells
import Derived.WalkLawsBesides
import Derived.Deep.QuietTactic
import Derived.BigQuiet
import Derived.Deep.LoopGhost
namespace Go.Proofs.Qxb6617139a
open Go.RowKit

theorem ret_int {k : IntKind} {a b : Int} (h : a = b) : Ending.returned (.int k a) = .returned (.int k b) := by rw [h]
theorem ret_bool {a b : Bool} (h : a = b) : Ending.returned (.bool a) = .returned (.bool b) := by rw [h]

/-- byte k of s, 0 past its end -/
def byteAt (s : ByteArray) (k : Nat) : Nat := if h : k < s.size then s[k].toNat else 0
/-- the first k bytes, big-endian -/
def nk (s : ByteArray) : Nat → Nat
  | 0 => 0
  | k + 1 => nk s k * 256 + byteAt s k

theorem byteAt_lt (s : ByteArray) (k : Nat) : byteAt s k < 256 := by
  unfold byteAt
  split
  · exact UInt8.toNat_lt _
  · omega

theorem nk_lt (s : ByteArray) : ∀ k, nk s k < 256 ^ k
  | 0 => by simp [nk]
  | k + 1 => by
    have h1 := nk_lt s k
    have h2 := byteAt_lt s k
    simp only [nk, Nat.pow_succ]
    omega

/-- the first k bytes, each at its own place -/
def ko (s : ByteArray) (k : Nat) : Nat := nk s k * 2 ^ (64 - 8 * k)

theorem nk7 (s : ByteArray) (k : Nat) (h : k < 8) : nk s k < 72057594037927936 :=
  Nat.lt_of_lt_of_le (nk_lt s k) (Nat.le_trans (Nat.pow_le_pow_right (by omega) (by omega : k ≤ 7)) (by decide))

theorem or_low (a b : Nat) (hb : b < 256) : a * 256 ||| b = a * 256 + b := by
  have := Nat.two_pow_add_eq_or_of_lt (i := 8) hb a
  rw [Nat.mul_comm]
  exact this.symm

theorem wrapN (a : Nat) (ha : a < 18446744073709551616) : IntKind.u64.wrap (a : Int) = (a : Int) := by rw [IntKind.wrap_u64]; omega

theorem nk_step (s : ByteArray) (k : Nat) (hk : k < 8) (hs : k < s.size) :
    bits BinOp.or IntKind.u64 (IntKind.u64.wrap (↑(nk s k) * 256)) (IntKind.u64.wrap ↑s[k].toNat) = ↑(nk s (k + 1)) := by
  have h1 := nk7 s k hk
  have h2 := s[k].toNat_lt
  have e1 : IntKind.u64.wrap (↑(nk s k) * 256) = ((nk s k * 256 : Nat) : Int) := by rw [IntKind.wrap_u64]; omega
  rw [e1, wrapN _ (by omega), u64_or_nat _ _ (by omega) (by omega), or_low _ _ (by omega)]
  simp only [nk, byteAt, hs, dif_pos]

theorem nk_step' (s : ByteArray) (k : Nat) (hk : k < 8) (hs : ¬ k < s.size) : IntKind.u64.wrap (↑(nk s k) * 256) = ↑(nk s (k + 1)) := by
  have h1 := nk7 s k hk
  rw [IntKind.wrap_u64]
  simp only [nk, byteAt, hs, dif_neg, not_false_eq_true]
  omega

theorem ko_lt (s : ByteArray) (k : Nat) (hk : k ≤ 8) : ko s k < 18446744073709551616 := by
  have h := nk_lt s k
  have e : (256 : Nat) ^ k * 2 ^ (64 - 8 * k) = 18446744073709551616 := by
    rw [show (256 : Nat) = 2 ^ 8 by decide, ← Nat.pow_mul, ← Nat.pow_add, show 8 * k + (64 - 8 * k) = 64 by omega]
  rw [← e]
  exact Nat.mul_lt_mul_of_pos_right h (Nat.two_pow_pos _)

theorem ko_step (s : ByteArray) (k : Nat) (hk : k < 8) (hs : k < s.size) :
    bits BinOp.or IntKind.u64 (↑(ko s k)) (IntKind.u64.wrap (IntKind.u64.wrap ↑s[k].toNat * 2 ^ (56 - 8 * k))) = ↑(ko s (k + 1)) := by
  have h0 := ko_lt s k (by omega)
  have h1 := ko_lt s (k + 1) (by omega)
  have hx := s[k].toNat_lt
  have e1 : ko s (k + 1) = ko s k + s[k].toNat * 2 ^ (56 - 8 * k) := by
    unfold ko
    rw [show 64 - 8 * (k + 1) = 56 - 8 * k by omega, show 64 - 8 * k = 8 + (56 - 8 * k) by omega, Nat.pow_add]
    simp only [nk, byteAt, hs, dif_pos, Nat.add_mul]
    rw [Nat.mul_assoc]
  have e2 : ko s k + s[k].toNat * 2 ^ (56 - 8 * k) = ko s k ||| s[k].toNat * 2 ^ (56 - 8 * k) := by
    unfold ko
    rw [Nat.mul_comm (nk s k)]
    refine Nat.two_pow_add_eq_or_of_lt ?_ _
    rw [show 64 - 8 * k = 8 + (56 - 8 * k) by omega, Nat.pow_add]
    exact Nat.mul_lt_mul_of_pos_right (by omega) (Nat.two_pow_pos _)
  rw [wrapN _ (by omega)]
  have e3 : (s[k].toNat : Int) * 2 ^ (56 - 8 * k) = ((s[k].toNat * 2 ^ (56 - 8 * k) : Nat) : Int) := by simp
  rw [e3, wrapN _ (by omega), u64_or_nat _ _ h0 (by omega), ← e2, ← e1]

theorem ko_step' (s : ByteArray) (k : Nat) (hk : k < 8) (hs : ¬ k < s.size) : ((ko s k : Nat) : Int) = ko s (k + 1) := by
  unfold ko
  rw [show 64 - 8 * (k + 1) = 56 - 8 * k by omega, show 64 - 8 * k = 8 + (56 - 8 * k) by omega, Nat.pow_add]
  simp only [nk, byteAt, hs, dif_neg, not_false_eq_true, Nat.add_zero]
  rw [Nat.mul_assoc]

theorem ko8 (s : ByteArray) : ko s 8 = nk s 8 := by simp [ko]

set_option maxHeartbeats 400000 in
set_option maxRecDepth 100000 in
theorem nameKey_any (s : ByteArray) (w : World) :
    Calls Try.prog 29 #[.string s] w fun e w' => e = .returned (.int .u64 (nk s 8)) ∧ w' = w := by
  go_enter Try.func29, Try.ntmps29
  go_wp2
  go_loop [3, 5] (fun t i => ∃ k : Nat, k ≤ 8 ∧ i = .int .i64 k ∧ t = .int .u64 (nk s k)) (fun _ i => 8 - (intOf i).toNat)
  case atStart => exact ⟨0, by omega, rfl, rfl⟩
  case round =>
    obtain ⟨k, hk, rfl, rfl⟩ := hrel
    by_cases hlt : k < 8
    · by_cases hks : k < s.size
      · have HS : Hid _ := nk_step s k hlt hks
        go_wp2
        go_round
        case rel => exact ⟨k + 1, by omega, by go_num, congrArg _ HS.out⟩
        case measure => simp [intOf]; omega
      · have HS : Hid _ := nk_step' s k hlt hks
        go_wp2
        go_round
        case rel => exact ⟨k + 1, by omega, by go_num, congrArg _ HS.out⟩
        case measure => simp [intOf]; omega
    · go_wp2
      go_ret
      have e8 : k = 8 := by omega
      subst e8
      exact ⟨rfl, rfl⟩

set_option maxHeartbeats 400000 in
set_option maxRecDepth 100000 in
theorem keyOf_any (s : ByteArray) (w : World) :
    Calls Try.prog 26 #[.string s] w fun e w' => e = .returned (.int .u64 (nk s 8)) ∧ w' = w := by
  go_enter Try.func26, Try.ntmps26
  go_wp2
  go_loop [3, 4] (fun t i => ∃ k : Nat, k ≤ 8 ∧ i = .int .i64 k ∧ t = .int .u64 (ko s k)) (fun _ i => 8 - (intOf i).toNat)
  case atStart => exact ⟨0, by omega, rfl, by simp [ko, nk]⟩
  case round =>
    obtain ⟨k, hk, rfl, rfl⟩ := hrel
    by_cases hlt : k < 8
    · by_cases hks : k < s.size
      · have HS : Hid _ := ko_step s k hlt hks
        go_wp2
        go_round
        case rel => exact ⟨k + 1, by omega, by go_num, congrArg _ HS.out⟩
        case measure => simp [intOf]; omega
      · have HS : Hid _ := ko_step' s k hlt hks
        go_wp2
        go_round
        case rel => exact ⟨k + 1, by omega, by go_num, congrArg _ HS.out⟩
        case measure => simp [intOf]; omega
    · go_wp2
      go_ret
      have e8 : k = 8 := by omega
      subst e8
      exact ⟨ret_int (congrArg _ (ko8 s)), rfl⟩
end Go.Proofs.Qxb6617139a
