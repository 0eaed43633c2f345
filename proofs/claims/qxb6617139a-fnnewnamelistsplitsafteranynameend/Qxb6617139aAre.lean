import Derived.Test.Qxb6617139aLeaf
namespace Go.Proofs.Qxb6617139a
open Go.RowKit Names

theorem newList_nil (s : ByteArray) (w : World) (h0 : s.size = 0) :
    Calls Try.prog 25 #[.string s] w fun e w' => e = .returned (.pointer none) ∧ w' = w := by
  have he : s.toList.isEmpty = true := by
    rw [Lib.toList_data]
    have : s.data.toList.length = 0 := h0
    rw [List.eq_nil_of_length_eq_zero this]
    rfl
  clear h0
  go_enter Try.func25, Try.ntmps25
  go_wp2
  go_ret
  exact ⟨rfl, rfl⟩

/-- v is the list of the names of s: nil where s is empty -/
def ListOf (w : World) (v : Value) (s : ByteArray) : Prop := (s.size = 0 ∧ v = .pointer none) ∨ (0 < s.size ∧ IsList w v s)

theorem zznew_any (s : ByteArray) (w : World) (hs : s.size ≤ 1048576) :
    Calls Try.prog 15 #[.string s] w fun e w' => ∃ v, e = .returned v ∧ ListOf w' v s ∧ Below w.heap.size w w' := by
  by_cases h0 : s.size = 0
  · go_enter Try.func15, Try.ntmps15
    go_wp2_with (go_at_call 25; refine (newList_nil _ _ h0).mono ?_; rintro e w' ⟨rfl, rfl⟩)
    go_ret
    exact ⟨_, rfl, .inl ⟨h0, rfl⟩, Below.refl _ _⟩
  · have h1 : 0 < s.size := by omega
    go_enter Try.func15, Try.ntmps15
    go_wp2_with (go_at_call 25; refine (newList_some _ _ hs h1).mono ?_; rintro e w' ⟨v, rfl, hl, hb⟩)
    go_ret
    exact ⟨_, rfl, .inr ⟨h1, hl⟩, hb⟩

/-- where name k begins -/
def posOf (L : List (List UInt8)) (k : Nat) : Nat := (laid (L.take k)).length

theorem laid_split (L : List (List UInt8)) (k : Nat) (hk : k < L.length) : laid L = laid (L.take k) ++ (L[k] ++ 0 :: laid (L.drop (k + 1))) := by
  have e : L.take k ++ L[k] :: L.drop (k + 1) = L := by simp
  have h : laid (L.take k ++ L[k] :: L.drop (k + 1)) = laid (L.take k) ++ (L[k] ++ 0 :: laid (L.drop (k + 1))) := by
    unfold laid
    rw [List.flatMap_append, List.flatMap_cons, List.append_assoc]
    rfl
  rw [e] at h
  exact h

theorem pos_next (L : List (List UInt8)) (k : Nat) (hk : k < L.length) : posOf L (k + 1) = posOf L k + L[k].length + 1 := by
  unfold posOf laid
  rw [List.take_succ_eq_append_getElem hk, List.flatMap_append, List.length_append, List.flatMap_cons, List.flatMap_nil, List.append_nil, List.length_append]
  simp only [List.length_cons, List.length_nil]
  omega

theorem byte_of (T : ByteArray) (j : Nat) (h : j < T.size) (c : UInt8) (hc : T.data.toList[j]? = some c) : T[j] = c := by
  have h1 : j < T.data.toList.length := by simpa using h
  rw [List.getElem?_eq_getElem h1] at hc
  injection hc

theorem idx_run (T : ByteArray) (P j : Nat) (h : P + j < T.size) (c : Int) (hc : ((T[P + j]'h).toNat : Int) = c) (w : World) : (Instr.index 9 (.string T) (.int .i64 ((P : Int) + (j : Int)))).run Try.prog w = .ok (.int .u8 c) w := by
  rw [run_index_string w 9 T .i64 _ Try.underlying9, dif_pos (by omega)]
  have e : ((P : Int) + (j : Int)).toNat = P + j := by omega
  simp only [e]
  rw [hc]

theorem facts (T : ByteArray) (L : List (List UInt8)) (hT : T.data.toList = laid L) (h0 : ∀ n ∈ L, ∀ x ∈ n, x ≠ 0) (k : Nat) (hk : k < L.length) :
    ∃ (X : ByteArray) (P : Nat), ba L[k] = X ∧ posOf L k = P ∧ P + X.size + 1 ≤ T.size ∧
      (∀ q (hq : q < X.size), ∃ h : P + q < T.size, ((T[P + q]'h).toNat : Int) = X[q].toNat ∧ (((X[q]'hq).toNat : Int) == 0) = false) ∧
      (∃ h : P + X.size < T.size, ((T[P + X.size]'h).toNat : Int) = 0) ∧ posOf L (k + 1) = P + X.size + 1 := by
  have e := laid_split L k hk
  have hlen : T.size = posOf L k + (L[k].length + 1) + (laid (L.drop (k + 1))).length := by
    have : T.data.toList.length = T.size := by simp
    rw [← this, hT, e]
    simp only [posOf, List.length_append, List.length_cons]
    omega
  have hp : (laid (L.take k)).length = posOf L k := rfl
  have hz : (ba L[k]).size = L[k].length := rfl
  refine ⟨_, _, rfl, rfl, by omega, fun q hq => ⟨by omega, ?_, ?_⟩, ⟨by omega, ?_⟩, by rw [hz]; exact pos_next L k hk⟩
  · have hq' : q < L[k].length := hq
    have : T.data.toList[posOf L k + q]? = some L[k][q] := by
      rw [hT, e, List.getElem?_append_right (by omega), hp, Nat.add_sub_cancel_left, List.getElem?_append_left hq', List.getElem?_eq_getElem hq']
    rw [byte_of T _ (by omega) _ this]
    rfl
  · have hq' : q < L[k].length := hq
    have h1 := h0 L[k] (List.getElem_mem hk) L[k][q] (List.getElem_mem hq')
    have h3 : L[k][q].toNat ≠ 0 := fun h => h1 (UInt8.toNat_inj.1 (by simpa using h))
    have h4 : ((L[k][q].toNat : Int) == 0) = false := by simpa using h3
    exact h4
  · have : T.data.toList[posOf L k + L[k].length]? = some 0 := by
      rw [hT, e, List.getElem?_append_right (by omega), hp, Nat.add_sub_cancel_left, List.getElem?_append_right (Nat.le_refl _), Nat.sub_self]
      rfl
    have h2 := byte_of T _ (by omega) _ this
    have h3 : ((T[posOf L k + L[k].length]'(by omega)).toNat : Int) = 0 := by rw [h2]; rfl
    exact h3

theorem pos_end (T : ByteArray) (L : List (List UInt8)) (hT : T.data.toList = laid L) : posOf L L.length = T.size := by
  have : T.data.toList.length = T.size := by simp
  rw [← this, hT, posOf, List.take_length]

theorem getLast_ba (s : ByteArray) (h : s.size - 1 < s.size) : s.data.toList.getLast? = some (s[s.size - 1]) := by
  rw [List.getLast?_eq_getElem?]
  simp [h]
  rfl

theorem closed_yes (s : ByteArray) (hne : s.data.toList ≠ []) {h : s.size - 1 < s.size} (h0 : s[s.size - 1] = 0) : s.data.toList = laid (names s.data.toList) := by
  rw [laid_names _ hne, closed, if_pos (by rw [getLast_ba s h, h0])]

theorem closed_no (s : ByteArray) (hne : s.data.toList ≠ []) {h : s.size - 1 < s.size} (h0 : s[s.size - 1] ≠ 0) : (s ++ (⟨#[0]⟩ : ByteArray)).data.toList = laid (names s.data.toList) := by
  rw [laid_names _ hne, closed, if_neg (by rw [getLast_ba s h]; simpa using h0)]
  simp

set_option maxHeartbeats 1000000 in
theorem are_any (s : ByteArray) (v : Value) (w : World) (hs : s.size ≤ 1048576) (hl : ListOf w v s) :
    Calls Try.prog 16 #[.string s, v] w fun e w' => e = .returned (.bool true) ∧ ∃ n, w' = w.drewN n := by
  rcases hl with ⟨h0, rfl⟩ | ⟨h0, b, r, cap, rfl, hc0, hc1, hrow, _, _⟩
  · have he : s.toList.isEmpty = true := by
      rw [Lib.toList_data]
      have : s.data.toList.length = 0 := h0
      rw [List.eq_nil_of_length_eq_zero this]
      rfl
    clear h0
    go_enter Try.func16, Try.ntmps16
    go_wp2
    go_ret
    exact ⟨rfl, 0, rfl⟩
  · have he : s.toList.isEmpty = false := by
      rw [Lib.toList_data]
      have : s.data.toList.length = s.size := by simp
      have : s.data.toList ≠ [] := fun h => by rw [h] at this; simp at this; omega
      simpa using this
    have hne : s.data.toList ≠ [] := fun h => by have : s.data.toList.length = s.size := by simp
                                                 rw [h] at this; simp at this; omega
    have hnl := names_len s.data.toList
    have hsl : s.data.toList.length = s.size := by simp
    rw [hsl] at hnl
    clear hsl
    by_cases hlast : s[s.size - 1] = 0
    · have hl0 : (s[s.size - 1].toNat : Int) = 0 := by rw [hlast]; rfl
      have F := facts s _ (closed_yes s hne hlast) (names_no0 _)
      have E := pos_end s _ (closed_yes s hne hlast)
      go_enter Try.func16, Try.ntmps16
      go_wp2_with (first | (go_at_call 17; refine (joined_at _ _ _ hc0).mono ?_; rintro e w' ⟨rfl, rfl⟩) | (go_at_call 19; refine (count_at _ _ _ _ _ hc1).mono ?_; rintro e w' ⟨rfl, rfl⟩))
      go_loopg [7, 8] (names s.data.toList).length (fun g p i wr => ∃ k : Nat, g + k = (names s.data.toList).length ∧ i = .int .i64 k ∧ p = .int .i64 (posOf (names s.data.toList) k) ∧ ∃ n, wr = w'.drewN n)
      case atStart => exact ⟨0, rfl, rfl, rfl, 0, rfl⟩
      case round =>
        obtain ⟨k, hk, rfl, hp, n, rfl⟩ := hrel
        by_cases hlt : k < (names s.data.toList).length
        · obtain ⟨X, P, hX, hPP, hP, hq, ⟨hP2, h0q⟩, hnext⟩ := F k hlt
          rw [hPP] at hp
          subst hp
          have hrk := hrow k hlt
          rw [hX] at hrk
          have HN : Hid (posOf (names s.data.toList) (k + 1) = P + X.size + 1) := hnext
          clear hX hPP hnext
          have hli : (k : Int) < (names s.data.toList).length := by omega
          go_wp2_with (first | (go_at_call 20; refine (name_at b r _ cap k _ (w'.drewN n) hc1 hlt hrk.2).mono ?_; rintro e w5 ⟨rfl, hw5⟩; rw [hw5]; clear hw5))
          go_loopg [10] X.size (fun g q wr => ∃ j : Nat, g + j = X.size ∧ q = .int .i64 j ∧ ∃ n, wr = w'.drewN n)
          case atStart => exact ⟨0, rfl, rfl, n, rfl⟩
          case round =>
            obtain ⟨j, hj, rfl, n2, rfl⟩ := hrel
            by_cases hlj : j < X.size
            · obtain ⟨hb1, hb2, hb3⟩ := hq j hlj
              have hix := idx_run _ P j hb1 _ hb2
              clear hb2 hb1
              go_wp2
              generalize hW : w'.drewN n2 = w2
              have HW : Hid (w'.drewN n2 = w2) := hW
              clear hW
              go_quiet (fail)
              go_wp2
              go_roundg (X.size - (j + 1))
              case measure => omega
              case rel => exact ⟨j + 1, by omega, by go_num, _, by rw [← HW.out, World.drewN_drewN]⟩
            · go_wp2_with (first | (go_at_call 21; refine (key_at b r _ cap k _ (w'.drewN n2) hc1 hlt hrk.1).mono ?_; rintro e w5 ⟨rfl, hw5⟩; rw [hw5]; clear hw5) | (go_at_call 26; refine (keyOf_any _ _).mono ?_; rintro e w5 ⟨rfl, hw5⟩; rw [hw5]; clear hw5))
              go_roundg ((names s.data.toList).length - (k + 1))
              case measure => omega
              case rel => exact ⟨k + 1, by omega, by go_num, by rw [HN.out]; go_num, _, rfl⟩
        · have ek : k = (names s.data.toList).length := by omega
          rw [ek, E] at hp
          subst hp
          clear ek E
          go_wp2
          go_ret
          exact ⟨ret_bool (by simp), _, rfl⟩
    · have hl0 : ((s[s.size - 1].toNat : Int) == 0) = false := by
        simp
        intro h
        exact hlast (UInt8.toNat_inj.1 (by simpa using h))
      have F := facts (s ++ ⟨#[0]⟩) _ (closed_no s hne hlast) (names_no0 _)
      have E := pos_end (s ++ ⟨#[0]⟩) _ (closed_no s hne hlast)
      have hTs : (s ++ (⟨#[0]⟩ : ByteArray)).size = s.size + 1 := by simp; rfl
      generalize hT : s ++ (⟨#[0]⟩ : ByteArray) = T at F E hTs
      go_enter Try.func16, Try.ntmps16
      go_wp2_with (first | (go_at_call 17; refine (joined_at _ _ _ hc0).mono ?_; rintro e w' ⟨rfl, rfl⟩) | (go_at_call 19; refine (count_at _ _ _ _ _ hc1).mono ?_; rintro e w' ⟨rfl, rfl⟩))
      go_loopg [7, 8] (names s.data.toList).length (fun g p i wr => ∃ k : Nat, g + k = (names s.data.toList).length ∧ i = .int .i64 k ∧ p = .int .i64 (posOf (names s.data.toList) k) ∧ ∃ n, wr = w'.drewN n)
      case atStart => exact ⟨0, rfl, rfl, rfl, 0, rfl⟩
      case round =>
        obtain ⟨k, hk, rfl, hp, n, rfl⟩ := hrel
        by_cases hlt : k < (names s.data.toList).length
        · obtain ⟨X, P, hX, hPP, hP, hq, ⟨hP2, h0q⟩, hnext⟩ := F k hlt
          rw [hPP] at hp
          subst hp
          have hrk := hrow k hlt
          rw [hX] at hrk
          have HN : Hid (posOf (names s.data.toList) (k + 1) = P + X.size + 1) := hnext
          clear hX hPP hnext
          have hli : (k : Int) < (names s.data.toList).length := by omega
          go_wp2_with (first | (go_at_call 20; refine (name_at b r _ cap k _ (w'.drewN n) hc1 hlt hrk.2).mono ?_; rintro e w5 ⟨rfl, hw5⟩; rw [hw5]; clear hw5))
          go_loopg [10] X.size (fun g q wr => ∃ j : Nat, g + j = X.size ∧ q = .int .i64 j ∧ ∃ n, wr = w'.drewN n)
          case atStart => exact ⟨0, rfl, rfl, n, rfl⟩
          case round =>
            obtain ⟨j, hj, rfl, n2, rfl⟩ := hrel
            by_cases hlj : j < X.size
            · obtain ⟨hb1, hb2, hb3⟩ := hq j hlj
              have hix := idx_run _ P j hb1 _ hb2
              clear hb2 hb1
              go_wp2
              generalize hW : w'.drewN n2 = w2
              have HW : Hid (w'.drewN n2 = w2) := hW
              clear hW
              go_quiet (fail)
              go_wp2
              go_roundg (X.size - (j + 1))
              case measure => omega
              case rel => exact ⟨j + 1, by omega, by go_num, _, by rw [← HW.out, World.drewN_drewN]⟩
            · go_wp2_with (first | (go_at_call 21; refine (key_at b r _ cap k _ (w'.drewN n2) hc1 hlt hrk.1).mono ?_; rintro e w5 ⟨rfl, hw5⟩; rw [hw5]; clear hw5) | (go_at_call 26; refine (keyOf_any _ _).mono ?_; rintro e w5 ⟨rfl, hw5⟩; rw [hw5]; clear hw5))
              go_roundg ((names s.data.toList).length - (k + 1))
              case measure => omega
              case rel => exact ⟨k + 1, by omega, by go_num, by rw [HN.out]; go_num, _, rfl⟩
        · have ek : k = (names s.data.toList).length := by omega
          rw [ek, E] at hp
          subst hp
          clear ek E
          go_wp2
          go_ret
          exact ⟨ret_bool (by simp), _, rfl⟩
end Go.Proofs.Qxb6617139a
