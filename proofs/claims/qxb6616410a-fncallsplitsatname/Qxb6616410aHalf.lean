import Derived.Test.Qxb6616410aLeaf
namespace Go.Proofs.Qxb6616410a
open Go.RowKit Names

theorem take_hasP (s : ByteArray) (k : Nat) (h : k < s.size) (ha : hasP (s.data.toList.take k) = false) (hc : ((s[k].toNat : Int) == 40) = false) : hasP (s.data.toList.take (k + 1)) = false := by
  have hl : k < s.data.toList.length := h
  unfold hasP at *
  rw [List.take_succ_eq_append_getElem hl, List.any_append, ha]
  have e : s.data.toList[k] = s[k] := rfl
  have : s[k] ≠ 40 := fun h => by rw [h] at hc; simp at hc
  simp [e, this]

theorem hit_hasP (s : ByteArray) (k : Nat) (h : k < s.size) (hc : ((s[k].toNat : Int) == 40) = true) : true = hasP s.data.toList := by
  have e : s[k] = 40 := UInt8.toNat_inj.1 (by simp at hc; simp; omega)
  unfold hasP
  refine (List.any_eq_true.2 ⟨s[k], List.mem_iff_getElem.2 ⟨k, h, rfl⟩, ?_⟩).symm
  rw [e]
  rfl

theorem upTo_at (l : List UInt8) : ∀ (k : Nat), hasP (l.take k) = false → l[k]? = some 40 → upTo l = l.take k := by
  induction l with
  | nil => intro k _ h; simp at h
  | cons c l ih =>
    intro k h1 h2
    cases k with
    | zero =>
      simp at h2
      simp [upTo, h2]
    | succ k =>
      unfold hasP at h1
      rw [List.take_succ_cons, List.any_cons, Bool.or_eq_false_iff] at h1
      have hc : c ≠ 40 := by simpa using h1.1
      rw [upTo, if_neg hc, ih k h1.2 (by simpa using h2), List.take_succ_cons]

theorem hit_upTo (s : ByteArray) (k : Nat) (h : k < s.size) (ha : hasP (s.data.toList.take k) = false) (hc : ((s[k].toNat : Int) == 40) = true) : upTo s.data.toList = s.data.toList.take k := by
  have e : s[k] = 40 := UInt8.toNat_inj.1 (by simp at hc; simp; omega)
  refine upTo_at _ k ha ?_
  have hl : k < s.data.toList.length := h
  rw [List.getElem?_eq_getElem hl, ← e]
  rfl

theorem miss_hasP (s : ByteArray) (k : Nat) (h : s.size ≤ k) (ha : hasP (s.data.toList.take k) = false) : hasP s.data.toList = false := by
  rwa [List.take_of_length_le (by simpa using h)] at ha

theorem hasByte_any (s : ByteArray) (w : World) (hs : s.size ≤ 1048576) : Calls Try.prog 8 #[.string s, .int .u8 40] w fun e w' => e = .returned (.bool (hasP s.data.toList)) ∧ w' = w := by
  go_enter Try.func8, Try.ntmps8
  go_wp2
  go_loopg [5] s.size (fun g i wr => ∃ k : Nat, g + k = s.size ∧ i = .int .i64 k ∧ hasP (s.data.toList.take k) = false ∧ wr = w)
  case atStart => exact ⟨0, rfl, rfl, rfl, rfl⟩
  case round =>
    obtain ⟨k, hk, rfl, hall, rfl⟩ := hrel
    have HA : Hid (hasP (s.data.toList.take k) = false) := hall
    clear hall
    by_cases hlt : k < s.size
    · cases hc : ((s[k].toNat : Int) == 40) with
      | true =>
        go_wp2
        go_ret
        exact ⟨ret_bool (hit_hasP s k hlt hc), rfl⟩
      | false =>
        go_wp2
        go_roundg (s.size - (k + 1))
        case measure => omega
        case rel => exact ⟨k + 1, by omega, by go_num, take_hasP s k hlt HA.out hc, rfl⟩
    · go_wp2
      go_ret
      exact ⟨ret_bool (miss_hasP s k (by omega) HA.out).symm, rfl⟩

set_option maxHeartbeats 400000 in
theorem callName_any (s : ByteArray) (w : World) (hs : s.size ≤ 1048576) :
    Calls Try.prog 12 #[.string s] w fun e w' => ∃ f, e = .returned (.tuple #[.string (ba (nm s.data.toList)), .bool f]) ∧ w' = w := by
  by_cases hi : Lib.indexByte s.data.toList 40 < 0
  · have hn := index_no _ hi
    have hm : nm s.data.toList = [] := by simp [nm, hn]
    go_enter Try.func12, Try.ntmps12
    go_wp2_with (go_at_call 13; refine (Try.strings_IndexByte _ _ _).mono ?_; rintro e w' ⟨rfl, rfl⟩)
    go_ret2
    exact ⟨false, by rw [hm]; rfl, rfl⟩
  · obtain ⟨i, hi'⟩ : ∃ i : Nat, Lib.indexByte s.data.toList 40 = i := ⟨(Lib.indexByte s.data.toList 40).toNat, by omega⟩
    obtain ⟨hu, hp, hl0⟩ := index_upTo _ i hi'
    have hl : i < s.size := hl0
    have hx : (s.extract 0 i).size ≤ 1048576 := by simp; omega
    clear hi hl0
    have HU : Hid (upTo s.data.toList = s.data.toList.take i) := hu
    clear hu
    cases hn : nameB (upTo s.data.toList) with
    | true =>
      have hm : nm s.data.toList = upTo s.data.toList := by simp [nm, hn, hp]
      have HM : Hid (nm s.data.toList = upTo s.data.toList) := hm
      clear hm hp
      rw [HU.out] at hn
      go_enter Try.func12, Try.ntmps12
      go_wp2_with (first | (go_at_call 13; refine (Try.strings_IndexByte _ _ _).mono ?_; rintro e w' ⟨rfl, rfl⟩) | (go_at_call 14; refine (isName_any _ _ hx).mono ?_; rintro e w' ⟨rfl, rfl⟩))
      go_ret2
      refine ⟨true, ?_, rfl⟩
      rw [HM.out, HU.out, extract_ba]
      simp
    | false =>
      have hm : nm s.data.toList = [] := by simp [nm, hn]
      have HM : Hid (nm s.data.toList = []) := hm
      clear hm hp
      rw [HU.out] at hn
      go_enter Try.func12, Try.ntmps12
      go_wp2_with (first | (go_at_call 13; refine (Try.strings_IndexByte _ _ _).mono ?_; rintro e w' ⟨rfl, rfl⟩) | (go_at_call 14; refine (isName_any _ _ hx).mono ?_; rintro e w' ⟨rfl, rfl⟩))
      go_ret2
      refine ⟨false, ?_, rfl⟩
      rw [HM.out]
      rfl

theorem ne_of_pos {s : ByteArray} (h : 0 < s.size) : s.data.toList ≠ [] := fun h1 => by
  have h2 : s.data.toList.length = s.size := rfl
  rw [h1] at h2
  simp at h2
  omega

set_option maxHeartbeats 400000 in
theorem call_any (p q : Int) (s r : ByteArray) (w : World) (hs : s.size ≤ 1048576) (h0 : 0 < s.size) :
    Calls Try.prog 11 #[.agg #[.int .i64 p, .string s, .int .i64 q], .string r] w fun e w' =>
      e = .returned (.agg #[.int .i64 p, .string (ba (nm s.data.toList)), .string (ba (s.data.toList.drop ((nm s.data.toList).length + 1))), .string r, .string ⟨#[]⟩, .bool false]) ∧ Below w.heap.size w w' := by
  have hlt : (nm s.data.toList).length < s.size := nm_lt _ (ne_of_pos h0)
  have hX : (ba (nm s.data.toList)).size = (nm s.data.toList).length := rfl
  generalize hN : ba (nm s.data.toList) = X at hX
  rw [← hX] at hlt
  go_enter Try.func11, Try.ntmps11
  go_wp2_with (go_at_call 12; refine (callName_any _ _ hs).mono ?_; rintro e w' ⟨f, rfl, hw⟩; rw [hw]; clear hw)
  have HX : Hid (X.size = (nm s.data.toList).length) := hX
  have HN : Hid (ba (nm s.data.toList) = X) := hN
  clear hX hN
  go_region
  go_wp2
  refine bodyPost_ret (v := .agg #[.int .i64 p, .string X, .string (s.extract (X.size + 1) s.size), .string r, .string ⟨#[]⟩, .bool false]) (by simp [results, Try.results11, go_sem]) rfl ⟨?_, ?_⟩
  · rw [extract_ba, HX.out, List.take_of_length_le (by simp)]
  · exact ((((Below.refl _ _).alloc (Nat.le_refl _) _).alloc (by simp) _).drew)

theorem bcell {W w1 : World} (hb : Below W.heap.size W w1) : (∀ b o, b < W.heap.size → w1.cell? ⟨b, o, none⟩ = W.cell? ⟨b, o, none⟩) ∧ (∀ b o, b < W.heap.size → w1.frozen? ⟨b, o, none⟩ = W.frozen? ⟨b, o, none⟩) :=
  ⟨fun b o h => hb.cell (p := ⟨b, o, none⟩) h, fun b o h => hb.frozen (p := ⟨b, o, none⟩) h⟩

/-- the call that a first half begins -/
def callOf (p : Int) (s r : ByteArray) : Value :=
  .agg #[.int .i64 p, .string (ba (nm s.data.toList)), .string (ba (s.data.toList.drop ((nm s.data.toList).length + 1))), .string r, .string ⟨#[]⟩, .bool false]

set_option maxHeartbeats 400000 in
theorem zzcall_any (p q : Int) (s r : ByteArray) (w : World) (hs : s.size ≤ 1048576) (h0 : 0 < s.size) :
    Calls Try.prog 6 #[.int .i64 p, .string s, .int .i64 q, .string r] w fun e w' => e = .returned (callOf p s r) ∧ Below w.heap.size w w' := by
  go_enter Try.func6, Try.ntmps6
  go_wp2_with (go_at_call 11; refine (call_any _ _ _ _ _ hs h0).mono ?_; rintro e w1 ⟨rfl, hb⟩; obtain ⟨hc, hf⟩ := bcell hb)
  have hb1 : Below w.heap.size w w1 := ((Below.refl _ _).alloc (Nat.le_refl _) _).trans (hb.mono (by simp))
  refine bodyPost_ret (v := callOf p s r) (by simp [results, Try.results6, go_sem, callOf, hc]) rfl ⟨rfl, ?_⟩
  exact (((((hb1.setCell (Nat.le_refl _) _).setCell (Nat.le_refl _) _).setCell (Nat.le_refl _) _).setCell (Nat.le_refl _) _).setCell (Nat.le_refl _) _).setCell (Nat.le_refl _) _
end Go.Proofs.Qxb6616410a
