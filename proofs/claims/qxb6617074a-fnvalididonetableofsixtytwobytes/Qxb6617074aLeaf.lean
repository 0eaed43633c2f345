import Derived.Test.Qxb6617074aRows
import Derived.Test.Qxb6617074aShelf
import Derived.WalkKit
import Derived.WalkMore
import Derived.Deep.QuietTactic
import Derived.BigQuiet
import Derived.Lib.ConvBytes
import Derived.WalkSpells
import Derived.WalkLawsBesides
namespace Go.Proofs.Qxb6617074a
open Go.RowKit

theorem zb_yes (s : ByteArray) (w : World) (h : s.size ≤ 1048576) :
    Calls Try.prog 4 #[.string s] w fun e w' => e = .returned (.bool true) ∧ w' = w := by
  go_enter Try.func4, Try.ntmps4
  go_wp2
  go_ret
  exact ⟨rfl, rfl⟩

theorem zb_no (s : ByteArray) (w : World) (h : 1048576 < s.size) (h2 : s.size ≤ 9223372036854775807) :
    Calls Try.prog 4 #[.string s] w fun e w' => e = .returned (.bool false) ∧ w' = w := by
  go_enter Try.func4, Try.ntmps4
  go_wp2
  go_ret
  exact ⟨rfl, rfl⟩

/-- an ASCII letter or digit -/
def alnumB (c : Int) : Bool := decide ((97 ≤ c ∧ c ≤ 122) ∨ (65 ≤ c ∧ c ≤ 90) ∨ (48 ≤ c ∧ c ≤ 57))

theorem ret_bool {a b : Bool} (h : a = b) : Ending.returned (.bool a) = .returned (.bool b) := by rw [h]

theorem alnum_any (c : Int) (w : World) :
    Calls Try.prog 6 #[.int .u8 c] w fun e w' => e = .returned (.bool (alnumB c)) ∧ w' = w := by
  go_enter Try.func6, Try.ntmps6
  go_wp2
  all_goals
    go_ret
    exact ⟨ret_bool (by unfold alnumB; rw [Bool.eq_iff_iff]; simp; omega), rfl⟩

def chars : ByteArray := ⟨#[65, 66, 67, 68, 69, 70, 71, 72, 73, 74, 75, 76, 77, 78, 79, 80, 81, 82, 83, 84, 85, 86, 87, 88, 89, 90, 97, 98, 99, 100, 101, 102, 103, 104, 105, 106, 107, 108, 109, 110, 111, 112, 113, 114, 115, 116, 117, 118, 119, 120, 121, 122, 48, 49, 50, 51, 52, 53, 54, 55, 56, 57]⟩

theorem index_ascii : ∀ n : Fin 128, decide (0 ≤ Lib.indexByte chars.data.toList (n.val.toUInt8)) = alnumB n.val := by decide +kernel

theorem contains_ascii (c : Int) (w : World) (h0 : 0 ≤ c) (h1 : c < 128) :
    Calls Try.prog 8 #[.string chars, .int .i32 c] w fun e w' => e = .returned (.bool (alnumB c)) ∧ w' = w := by
  refine (Try.strings_ContainsRune_ascii chars c w h0 h1).mono ?_
  rintro e w' ⟨rfl, rfl⟩
  refine ⟨ret_bool ?_, rfl⟩
  have h := index_ascii ⟨c.toNat, by omega⟩
  simp only at h
  rw [h]
  congr 1
  omega

theorem enc_high : ∀ n : Fin 128, Utf8.encode (n.val + 128 : Int) = ⟨#[(192 + (n.val + 128) / 64).toUInt8, (128 + n.val % 64).toUInt8]⟩ ∧ 128 ≤ ((128 + n.val % 64).toUInt8).toNat := by decide +kernel

theorem enc_two (c : Int) (h0 : 128 ≤ c) (h1 : c < 256) : ∃ e : ByteArray, Utf8.encode c = e ∧ ∃ h : e.size = 2, 128 ≤ (e[1].toNat : Int) := by
  have h := enc_high ⟨(c - 128).toNat, by omega⟩
  simp only at h
  have e : (((c - 128).toNat : Nat) : Int) + 128 = c := by omega
  rw [e] at h
  exact ⟨_, h.1, rfl, by exact_mod_cast h.2⟩

theorem index_none (l : List UInt8) (c : UInt8) (h : ∀ x ∈ l, x ≠ c) : Lib.indexByte l c = -1 := by
  induction l with
  | nil => rfl
  | cons a l ih =>
    have h1 : (a == c) = false := by simpa using h a (by simp)
    have h2 := ih (fun x hx => h x (by simp [hx]))
    simp [Lib.indexByte, h1, h2]

set_option maxHeartbeats 400000 in
set_option maxRecDepth 100000 in
theorem indexRune_high (s : ByteArray) (c : Int) (w : World) (h0 : 128 ≤ c) (h1 : c < 256) (hs : s.size = 62) (ha : ∀ i (h : i < s.size), (s[i].toNat : Int) < 128) :
    Calls Try.prog 9 #[.string s, .int .i32 c] w fun e w' => e = .returned (.int .i64 (-1)) ∧ ∃ n, w' = w.drewN n := by
  have hv : Lib.validRune c = true := by unfold Lib.validRune; simp; omega
  obtain ⟨e, he, hz, hy⟩ := enc_two c h0 h1
  have hne := ha 1 (by omega)
  have hno : ∀ x ∈ (s.extract 2 62).data.toList, x ≠ ((e[1].toNat : Int)).toNat.toUInt8 := by
    intro x hx hxe
    rw [Lib.extract_data] at hx
    obtain ⟨i, hi, rfl⟩ := List.mem_iff_getElem.1 (List.mem_of_mem_drop (List.mem_of_mem_take hx))
    have := ha i (by simpa using hi)
    have e1 : s.data.toList[i] = s[i]'(by simpa using hi) := rfl
    rw [e1] at hxe
    rw [hxe] at this
    simp at this
    omega
  have hw2 : IntKind.i64.wrap 2 = 2 := by decide
  go_enter Try.func9, Try.ntmps9
  go_wp2_with (first | (go_at_call 11; refine (Try.utf8_ValidRune _ _).mono ?_; rintro e w' ⟨rfl, rfl⟩))
  go_step3
  go_wp2
  refine wp_loop_rounds 1 ?_
  rw [rounds_succ]
  go_wp2
  go_step3
  go_wp2
  go_quiet (fail)
  generalize hW1 : World.drewN _ nq = w1
  have HW1 : Hid (w'.drewN nq = w1) := hW1
  clear hW1
  go_wp2
  go_quiet ((go_at_call 10; exact Calls.quiet_of_same (Try.strings_IndexByte _ _ _)))
  rw [index_none _ _ hno]
  go_wp2
  rw [Exit.noGoto_ret]
  go_wp2
  rw [Exit.noGoto_ret]
  go_ret
  exact ⟨rfl, _, by rw [← HW1.out, World.drewN_drewN]⟩

set_option maxHeartbeats 400000 in
set_option maxRecDepth 100000 in
theorem contains_high (s : ByteArray) (c : Int) (w : World) (h0 : 128 ≤ c) (h1 : c < 256) (hs : s.size = 62) (ha : ∀ i (h : i < s.size), (s[i].toNat : Int) < 128) :
    Calls Try.prog 8 #[.string s, .int .i32 c] w fun e w' => e = .returned (.bool false) ∧ ∃ n, w' = w.drewN n := by
  go_enter Try.func8, Try.ntmps8
  go_wp2_with (first | (go_at_call 9; refine (indexRune_high _ _ _ h0 h1 hs ha).mono ?_; rintro e w' ⟨rfl, hw⟩))
  go_ret
  exact ⟨rfl, hw⟩

theorem chars_size : chars.size = 62 := rfl
theorem chars_ascii : ∀ i (h : i < chars.size), (chars[i].toNat : Int) < 128 := by
  intro i h
  have : ∀ i : Fin 62, (chars.data[i]).toNat < 128 := by decide +kernel
  have := this ⟨i, h⟩
  exact_mod_cast this

theorem contains_any (c : Int) (w : World) (h0 : 0 ≤ c) (h1 : c < 256) :
    Calls Try.prog 8 #[.string chars, .int .i32 c] w fun e w' => e = .returned (.bool (alnumB c)) ∧ ∃ n, w' = w.drewN n := by
  by_cases h : c < 128
  · refine (contains_ascii c w h0 h).mono ?_
    rintro e w' ⟨rfl, rfl⟩
    exact ⟨rfl, 0, rfl⟩
  · refine (contains_high chars c w (by omega) h1 chars_size chars_ascii).mono ?_
    rintro e w' ⟨rfl, hw⟩
    exact ⟨ret_bool (by unfold alnumB; rw [Bool.eq_iff_iff]; simp; omega), hw⟩

theorem bytesWorld_below (w : World) (e : TypeId) (s : ByteArray) : Below w.heap.size w (Lib.bytesWorld w e s) :=
  ⟨rfl, rfl, rfl, by rw [Lib.bytesWorld_size]; omega, fun k hk => Lib.bytesWorld_at_old w e s k hk⟩

def okID (s : ByteArray) : Bool := decide (s.size = 8) && s.data.toList.all (fun b => alnumB b.toNat)

theorem getD_at (l : List UInt8) (k : Nat) (h : k < l.length) : l.getD k 0 = l[k] := by simp [List.getD, h]

theorem okID_yes (s : ByteArray) (h8 : s.size = 8) (h : (s.data.toList.take 8).all (fun b => alnumB b.toNat) = true) : true = okID s := by
  rw [List.take_of_length_le (by simp; omega)] at h
  simp only [okID, h8, h]; rfl

theorem okID_no (s : ByteArray) (k : Nat) (hk : k < 8) (h8 : s.size = 8) (x : UInt8) (hx : x = s.data.toList.getD k 0) (h : alnumB x.toNat = false) : false = okID s := by
  have hm : x ∈ s.data.toList := by
    rw [hx]
    have hl : k < s.data.toList.length := by simp; omega
    rw [getD_at _ _ hl]
    exact List.getElem_mem _
  have : s.data.toList.all (fun b => alnumB b.toNat) = false := by
    rw [List.all_eq_false]
    exact ⟨x, hm, by rw [h]; decide⟩
  simp only [okID, this, Bool.and_false]

theorem all_snoc (s : ByteArray) (k : Nat) (hk : k < 8) (h8 : s.size = 8) (x : UInt8) (hx : x = s.data.toList.getD k 0) (h : alnumB x.toNat = true) (ha : (s.data.toList.take k).all (fun b => alnumB b.toNat) = true) :
    (s.data.toList.take (k + 1)).all (fun b => alnumB b.toNat) = true := by
  have hl : k < s.data.toList.length := by simp; omega
  rw [List.take_succ_eq_append_getElem hl, List.all_append, ha]
  rw [getD_at _ _ hl] at hx
  simp [← hx, h]

theorem below_drewN' (B : Nat) (w : World) (n : Nat) : Below B w (w.drewN n) := ⟨rfl, rfl, rfl, Nat.le_refl _, fun _ _ => rfl⟩

theorem chars_eq : chars = ⟨#[65, 66, 67, 68, 69, 70, 71, 72, 73, 74, 75, 76, 77, 78, 79, 80, 81, 82, 83, 84, 85, 86, 87, 88, 89, 90, 97, 98, 99, 100, 101, 102, 103, 104, 105, 106, 107, 108, 109, 110, 111, 112, 113, 114, 115, 116, 117, 118, 119, 120, 121, 122, 48, 49, 50, 51, 52, 53, 54, 55, 56, 57]⟩ := rfl

set_option maxHeartbeats 400000 in
set_option maxRecDepth 100000 in
theorem valid_any (s : ByteArray) (w : World) :
    Calls Try.prog 7 #[.string s] w fun e w' => e = .returned (.bool (okID s)) ∧ Below w.heap.size w w' := by
  by_cases h8 : s.size = 8
  · have hcv := fun w => Lib.run_convert_string_bytes (P := Try.prog) w 9 24 5 s Try.underlying9 Try.underlying24 Try.underlying5
    have hcell : ∀ j, j < s.size → (Lib.bytesWorld w 5 s).cell? ⟨w.heap.size, j, none⟩ = some (.int .u8 (s.data.toList.getD j 0).toNat) := fun j hj => Lib.bytesWorld_cell w 5 s j hj
    have hb := bytesWorld_below w 5 s
    go_enter Try.func7, Try.ntmps7
    go_wp2
    go_loopw [11] (fun i wr => ∃ k : Nat, k ≤ 8 ∧ i = .int .i64 k ∧ (s.data.toList.take k).all (fun b => alnumB b.toNat) = true ∧ ∃ n, wr = (Lib.bytesWorld w 5 s).drewN n) (fun i _ => 8 - (intOf i).toNat)
    case atStart => exact ⟨0, by omega, rfl, rfl, 0, rfl⟩
    case round =>
      obtain ⟨k, hk, rfl, hall, n, rfl⟩ := hrel
      by_cases hlt : k < 8
      · have hc := hcell k (by omega)
        obtain ⟨x, hx⟩ : ∃ x : UInt8, x = s.data.toList.getD k 0 := ⟨_, rfl⟩
        rw [← hx] at hc
        have HX : Hid (x = s.data.toList.getD k 0) := hx
        clear hx
        have hxb : (x.toNat : Int) < 256 := by have := x.toNat_lt; omega
        have HA : Hid ((s.data.toList.take k).all (fun b => alnumB b.toNat) = true) := hall
        clear hall hcell
        go_wp2_with (go_at_call 8; refine (contains_any _ _ (by omega) hxb).mono ?_; rintro e w' ⟨rfl, n2, rfl⟩)
        · have h1 : (!alnumB (x.toNat : Int)) = true := by assumption
          go_ret
          exact ⟨ret_bool (okID_no s k hlt h8 x HX.out (by simpa using h1)), hb.trans (below_drewN' _ _ _)⟩
        · have h1 : (!alnumB (x.toNat : Int)) = false := by assumption
          go_roundw
          case rel => exact ⟨k + 1, by omega, by go_num, all_snoc s k hlt h8 x HX.out (by simpa using h1) HA.out, _, rfl⟩
          case measure => simp [intOf]; omega
      · go_wp2
        go_ret
        have e8 : k = 8 := by omega
        subst e8
        exact ⟨ret_bool (okID_yes s h8 hall), Below.trans hb (below_drewN' _ _ n)⟩
  · go_enter Try.func7, Try.ntmps7
    go_wp2
    go_ret
    exact ⟨ret_bool (by simp [h8, okID]), Below.refl _ _⟩

theorem zzvalid_any (s : ByteArray) (w : World) :
    Calls Try.prog 5 #[.string s] w fun e w' => e = .returned (.bool (okID s)) ∧ Below w.heap.size w w' := by
  go_enter Try.func5, Try.ntmps5
  go_wp2_with (go_at_call 7; refine (valid_any _ _).mono ?_; rintro e w' ⟨rfl, hw⟩)
  go_ret
  exact ⟨rfl, hw⟩

end Go.Proofs.Qxb6617074a
