import Derived.Test.Qxb6617117aScan
namespace Go.Proofs.Qxb6617117a
open Go.RowKit Cm

/-- the string that s begins is closed at r; where it is not, r is the last place -/
def ClosesAt (s : List UInt8) (r : Int) : Prop := (∃ i : Nat, r = i ∧ Closes false s i ∧ ∀ j, j < i → ¬ Closes false s j) ∨ (r = s.length - 1 ∧ ∀ j, ¬ Closes false s j)

theorem index_at {l : List UInt8} {c : UInt8} {i : Nat} (h : Lib.indexByte l c = i) : l[i]? = some c ∧ ∀ j, j < i → l[j]? ≠ some c := by
  induction l generalizing i with
  | nil => simp [Lib.indexByte] at h
  | cons b l ih =>
    by_cases hb : b = c
    · subst hb
      simp [Lib.indexByte] at h
      have : i = 0 := by omega
      subst this
      exact ⟨rfl, fun j hj => by omega⟩
    · have hbb : (b == c) = false := by simpa using hb
      simp only [Lib.indexByte, hbb] at h
      have hge := Lib.indexByte_ge l c
      by_cases h1 : Lib.indexByte l c = -1
      · simp [h1] at h
      · have h2 : (Lib.indexByte l c == -1) = false := by simpa using h1
        simp only [h2] at h
        obtain ⟨k, hk⟩ : ∃ k : Nat, Lib.indexByte l c = k := ⟨(Lib.indexByte l c).toNat, by omega⟩
        have hi : i = k + 1 := by simp at h; omega
        subst hi
        obtain ⟨h3, h4⟩ := ih hk
        refine ⟨by simpa using h3, fun j hj => ?_⟩
        cases j with
        | zero => simpa using hb
        | succ j => simpa using h4 j (by omega)

theorem index_neg {l : List UInt8} {c : UInt8} (h : Lib.indexByte l c < 0) : ∀ j : Nat, l[j]? ≠ some c := by
  induction l with
  | nil => simp
  | cons b l ih =>
    by_cases hb : b = c
    · subst hb
      simp [Lib.indexByte] at h
    · have hbb : (b == c) = false := by simpa using hb
      simp only [Lib.indexByte, hbb] at h
      have hge := Lib.indexByte_ge l c
      have h0 : Lib.indexByte l c < 0 := by
        by_cases h1 : Lib.indexByte l c = -1
        · omega
        · have h2 : (Lib.indexByte l c == -1) = false := by simpa using h1
          simp only [h2] at h
          simp at h
          omega
      intro j
      cases j with
      | zero => simpa using hb
      | succ j => simpa using ih h0 j

/-- b backslashes stand right ahead of q, and no more -/
theorem tail_parity (s : List UInt8) (q b : Nat) (hq : q ≤ s.length) (hb : b ≤ q) (hall : ∀ i, q - b ≤ i → i < q → s[i]? = some 92) (hend : b = q ∨ s[q - 1 - b]? ≠ some 92) : est false (s.take q) = (b % 2 == 1) := by
  have e : s.take q = s.take (q - b) ++ List.replicate b 92 := by
    apply List.ext_getElem?
    intro i
    by_cases h1 : i < q - b
    · rw [List.getElem?_append_left (by rw [List.length_take]; omega), List.getElem?_take, List.getElem?_take, if_pos (by omega), if_pos h1]
    · rw [List.getElem?_append_right (by rw [List.length_take]; omega), List.length_take, show min (q - b) s.length = q - b by omega]
      by_cases h2 : i < q
      · rw [List.getElem?_take, if_pos h2, hall i (by omega) h2, List.getElem?_replicate, if_pos (by omega)]
      · rw [List.getElem?_take, if_neg h2, List.getElem?_replicate, if_neg (by omega)]
  rw [e]
  apply est_parity
  rcases hend with rfl | hend
  · exact .inl (by simp)
  · by_cases hbq : b = q
    · exact .inl (by rw [hbq]; simp)
    · refine .inr ⟨s.take (q - 1 - b), s[q - 1 - b]'(by omega), ?_, fun h => hend (by rw [List.getElem?_eq_getElem (by omega), h])⟩
      rw [show q - b = (q - 1 - b) + 1 by omega, List.take_succ_eq_append_getElem]

theorem len_run {w : World} {u : Value} {m : List UInt8} (h : SL w u m) (ty : TypeId) (w' : World) : (Builtin.len_ #[22] ty #[u]).run Try.prog w' = .ok (.int .i64 m.length) w' := by
  obtain ⟨a, c, rfl, _⟩ := h
  simp [Builtin.len_, run_underlying Try.underlying22]
  rfl

theorem at_run {w : World} {u : Value} {m : List UInt8} (h : SL w u m) (z : Int) (h0 : 0 ≤ z) (h1 : z < m.length) :
    ∃ b o c, (∀ w', (Instr.indexAt 22 u (.int .i64 z)).run Try.prog w' = .ok (.pointer (some ⟨b, o, none⟩)) w') ∧ w.cell? ⟨b, o, none⟩ = some (.int .u8 ((c : UInt8).toNat : Int)) ∧ m[z.toNat]? = some c := by
  obtain ⟨a, cp, rfl, _, hr, _⟩ := h
  have hz : z.toNat < m.length := by omega
  obtain ⟨b, o, rfl, hc⟩ := hr z.toNat hz
  refine ⟨b, o + z.toNat, m[z.toNat], fun w' => ?_, hc, List.getElem?_eq_getElem hz⟩
  rw [run_indexAt_slice w' 22 ⟨b, o, none⟩ m.length cp .i64 z slice22, if_pos ⟨h0, h1⟩, elem22, Try.sizeOf5]
  simp [Result.andThen, Addr.add_lit]

theorem even_no {b : Nat} (h : ((b : Int) % 2 == 0) = true) : (b % 2 == 1) = false := by
  simp at h ⊢
  omega
theorem odd_yes {b : Nat} (h : ((b : Int) % 2 == 0) = false) : (b % 2 == 1) = true := by
  simp at h ⊢
  omega

theorem close_no {s : List UInt8} {k q : Nat} (h1 : ∀ j, j < k → ¬ Closes false s j) (h2 : ∀ j, k ≤ j → j < q → s[j]? ≠ some 34) : ∀ j, j < q → ¬ Closes false s j := fun j hj hc => by
  by_cases hk : j < k
  · exact h1 j hk hc
  · exact h2 j (by omega) hj hc.1

theorem close_next {s : List UInt8} {q : Nat} (h1 : ∀ j, j < q → ¬ Closes false s j) (h2 : est false (s.take q) = true) : ∀ j, j < q + 1 → ¬ Closes false s j := fun j hj hc => by
  by_cases hk : j < q
  · exact h1 j hk hc
  · have : j = q := by omega
    subst this
    have := hc.2
    rw [h2] at this
    cases this

set_option maxHeartbeats 1000000 in
theorem closing_any (u : Value) (s : List UInt8) (w : World) (h : SL w u s) (hs : s.length ≤ 1048576) :
    Calls Try.prog 18 #[u] w fun e w' => ∃ r : Int, e = .returned (.int .i64 r) ∧ ClosesAt s r ∧ w' = w := by
  have hlen := len_run h
  go_enter Try.func18, Try.ntmps18
  go_wp2
  go_loopg [3] (s.length + 1) (fun g t wr => ∃ k : Nat, g + k = s.length + 1 ∧ k ≤ s.length ∧ t = .int .i64 k ∧ (∀ j, j < k → ¬ Closes false s j) ∧ wr = w)
  case atStart => exact ⟨0, rfl, Nat.zero_le _, rfl, fun j hj => by omega, rfl⟩
  case round =>
    obtain ⟨k, hg, hk, rfl, hno, rfl⟩ := hrel
    obtain ⟨u', hrun, hu', _⟩ := h.fromI k hk
    have hi0 := idx_sl u' (s.drop k) 34 wr hu'
    have hlt := indexByte_lt (s.drop k) (34 : Int).toNat.toUInt8
    rw [List.length_drop] at hlt
    have hNO : Hid (∀ j, j < k → ¬ Closes false s j) := hno
    clear hno
    by_cases hx : Lib.indexByte (s.drop k) (34 : Int).toNat.toUInt8 < 0
    · have hneg := index_neg hx
      have HNEG : Hid (∀ j : Nat, (s.drop k)[j]? ≠ some (34 : Int).toNat.toUInt8) := hneg
      clear hneg
      generalize Lib.indexByte (s.drop k) (34 : Int).toNat.toUInt8 = x at hx hi0 hlt
      go_wp2_with (go_at_call 19; refine hi0.mono ?_; rintro e w' ⟨rfl, hw⟩; rw [hw]; clear hw)
      go_ret
      refine ⟨_, rfl, .inr ⟨rfl, fun j hc => ?_⟩, rfl⟩
      by_cases hjk : j < k
      · exact hNO.out j hjk hc
      · refine HNEG.out (j - k) ?_
        rw [List.getElem?_drop, show k + (j - k) = j by omega]
        exact hc.1
    · obtain ⟨d, hd⟩ : ∃ d : Nat, Lib.indexByte (s.drop k) (34 : Int).toNat.toUInt8 = d := ⟨(Lib.indexByte (s.drop k) (34 : Int).toNat.toUInt8).toNat, by omega⟩
      obtain ⟨hat, hbef⟩ := index_at hd
      rw [hd] at hi0 hlt
      have HAT : Hid ((s.drop k)[d]? = some (34 : Int).toNat.toUInt8) := hat
      have HBEF : Hid (∀ j, j < d → (s.drop k)[j]? ≠ some (34 : Int).toNat.toUInt8) := hbef
      clear hx hd hat hbef
      go_wp2_with (go_at_call 19; refine hi0.mono ?_; rintro e w' ⟨rfl, hw⟩; rw [hw]; clear hw)
      have hHit : s[k + d]? = some 34 := by
        have := HAT.out
        rw [List.getElem?_drop] at this
        exact this
      have hMiss : ∀ j, k ≤ j → j < k + d → s[j]? ≠ some 34 := fun j h1 h2 => by
        have := HBEF.out (j - k) (by omega)
        rw [List.getElem?_drop, show k + (j - k) = j by omega] at this
        exact this
      have HHIT : Hid (s[k + d]? = some 34) := hHit
      have HMISS : Hid (∀ j, k ≤ j → j < k + d → s[j]? ≠ some 34) := hMiss
      clear hHit hMiss
      go_loopg [5, 6] (k + d) (fun g t z wr' => ∃ (b : Nat) (y : Int), g + b = k + d ∧ t = .int .i64 b ∧ z = .int .i64 y ∧ y = (k : Int) + d - 1 - b ∧ (∀ i, k + d - b ≤ i → i < k + d → s[i]? = some 92) ∧ wr' = wr)
      case atStart => exact ⟨0, _, rfl, rfl, rfl, by omega, fun i h1 h2 => by omega, rfl⟩
      case round =>
        obtain ⟨b, y, hgb, rfl, rfl, hy, hall, hwr⟩ := hrel
        subst hwr
        have HALL : Hid (∀ i, k + d - b ≤ i → i < k + d → s[i]? = some 92) := hall
        have HY : Hid (y = (k : Int) + d - 1 - b) := hy
        have hyb : y < (k : Int) + d - b := by omega
        have hyb2 : (k : Int) + d - b ≤ y + 1 := by omega
        clear hall hy
        by_cases hbq : b < k + d
        · obtain ⟨bb, o, c, hrun2, hcell, hcs⟩ := at_run h y (by omega) (by omega)
          have HCS : Hid (s[y.toNat]? = some c) := hcs
          clear hcs
          have hy0 : 0 ≤ y := by omega
          cases h92 : ((c.toNat : Int) == 92) with
          | true =>
            have e92 := eq92 h92
            go_wp2
            go_roundg (k + d - (b + 1))
            case measure => omega
            case rel =>
              refine ⟨b + 1, y - 1, by omega, by go_num, by go_num, by omega, fun i h1 h2 => ?_, rfl⟩
              by_cases hi : i = y.toNat
              · rw [hi, HCS.out, e92.out]
              · exact HALL.out i (by omega) h2
          | false =>
            have e92 := ne92 h92
            have hpar := tail_parity s (k + d) b (by omega) (by omega) HALL.out (.inr (by rw [show k + d - 1 - b = y.toNat by omega, HCS.out]; intro h; injection h with h; exact e92.out h))
            have HPAR : Hid (est false (s.take (k + d)) = (b % 2 == 1)) := hpar
            clear hpar
            cases he : ((b : Int) % 2 == 0) with
            | true =>
              go_wp2
              go_ret
              exact ⟨_, rfl, .inl ⟨k + d, by omega, ⟨HHIT.out, by rw [HPAR.out]; exact even_no he⟩, close_no hNO.out HMISS.out⟩, rfl⟩
            | false =>
              go_wp2
              go_roundg (s.length - (k + d))
              case measure => omega
              case rel => exact ⟨k + d + 1, by omega, by omega, by go_num, close_next (close_no hNO.out HMISS.out) (by rw [HPAR.out]; exact odd_yes he), rfl⟩
        · have hy0 : y < 0 := by omega
          have hpar := tail_parity s (k + d) b (by omega) (by omega) HALL.out (.inl (by omega))
          have HPAR : Hid (est false (s.take (k + d)) = (b % 2 == 1)) := hpar
          clear hpar
          cases he : ((b : Int) % 2 == 0) with
          | true =>
            go_wp2
            go_ret
            exact ⟨_, rfl, .inl ⟨k + d, by omega, ⟨HHIT.out, by rw [HPAR.out]; exact even_no he⟩, close_no hNO.out HMISS.out⟩, rfl⟩
          | false =>
            go_wp2
            go_roundg (s.length - (k + d))
            case measure => omega
            case rel => exact ⟨k + d + 1, by omega, by omega, by go_num, close_next (close_no hNO.out HMISS.out) (by rw [HPAR.out]; exact odd_yes he), rfl⟩
end Go.Proofs.Qxb6617117a
