import Derived.Test.Qxb6617117aLeaf
namespace Go.Proofs.Qxb6617117a
open Go.RowKit Cm

theorem elem22 : Try.prog.elem 22 = 5 := by kernel_rfl
theorem slice22 : Try.prog.underlying 22 = some (.slice (Try.prog.elem 22)) := by rw [elem22]; exact Try.underlying22

theorem add_add (b o i : Nat) : (⟨b, o, none⟩ : Addr).add (i * 1) = ⟨b, o + i, none⟩ := by rw [Nat.mul_one, Addr.add_lit]

/-- what a slice expression gives -/
theorem sl_sliced {w : World} {a : Option Addr} {c : Nat} {m : List UInt8} (hle : m.length ≤ c) (hr : Rd w a m) (hn : a = none → c = 0) (i j : Nat) (hij : i ≤ j) (hj : j ≤ m.length) :
    SL w (sliced a i j c 1) ((m.drop i).take (j - i)) ∧ (sliced a i j c 1).ownBlock = (Value.slice a m.length c).ownBlock := by
  unfold sliced
  have hlen : ((m.drop i).take (j - i)).length = j - i := by rw [List.length_take, List.length_drop]; omega
  refine ⟨⟨_, c - i, by rw [hlen], by rw [hlen]; omega, fun t ht => ?_, fun h => ?_⟩, ?_⟩
  · rw [hlen] at ht
    obtain ⟨b, o, rfl, hc⟩ := hr (i + t) (by omega)
    refine ⟨b, o + i, ?_, ?_⟩
    · rw [if_neg (by omega), Option.map_some, add_add]
    · rw [Nat.add_assoc, hc]
      simp
  · split at h
    · omega
    · cases a with
      | none => have := hn rfl; omega
      | some x => simp at h
  · cases a with
    | none => split <;> rfl
    | some x =>
      split
      · rfl
      · simp only [Option.map_some, Value.ownBlock]
        congr 1
        unfold Addr.add
        split <;> rfl

theorem SL.cut {w : World} {u : Value} {m : List UInt8} (h : SL w u m) (i j : Nat) (hij : i ≤ j) (hj : j ≤ m.length) :
    ∃ u', (∀ w', (Instr.slice 22 u (some (.int .i64 (i : Int))) (some (.int .i64 (j : Int))) none).run Try.prog w' = .ok u' w') ∧ SL w u' ((m.drop i).take (j - i)) ∧ u'.ownBlock = u.ownBlock := by
  obtain ⟨a, c, rfl, hle, hr, hn⟩ := h
  obtain ⟨h1, h2⟩ := sl_sliced hle hr hn i j hij hj
  refine ⟨_, fun w' => ?_, h1, h2⟩
  rw [run_slice_lh w' 22 a m.length c slice22 .i64 .i64 i j (by omega) (by omega) (by omega), elem22, Try.sizeOf5]
  simp [Result.andThen]

theorem SL.fromI {w : World} {u : Value} {m : List UInt8} (h : SL w u m) (i : Nat) (hi : i ≤ m.length) :
    ∃ u', (∀ w', (Instr.slice 22 u (some (.int .i64 (i : Int))) none none).run Try.prog w' = .ok u' w') ∧ SL w u' (m.drop i) ∧ u'.ownBlock = u.ownBlock := by
  obtain ⟨a, c, rfl, hle, hr, hn⟩ := h
  obtain ⟨h1, h2⟩ := sl_sliced hle hr hn i m.length hi (Nat.le_refl _)
  rw [List.take_of_length_le (by simp)] at h1
  refine ⟨_, fun w' => ?_, h1, h2⟩
  rw [run_slice_l w' 22 a m.length c slice22 .i64 i (by omega) (by omega), elem22, Try.sizeOf5]
  simp [Result.andThen]

theorem SL.upto {w : World} {u : Value} {m : List UInt8} (h : SL w u m) (j : Nat) (hj : j ≤ m.length) :
    ∃ u', (∀ w', (Instr.slice 22 u none (some (.int .i64 (j : Int))) none).run Try.prog w' = .ok u' w') ∧ SL w u' (m.take j) ∧ u'.ownBlock = u.ownBlock := by
  obtain ⟨a, c, rfl, hle, hr, hn⟩ := h
  obtain ⟨h1, h2⟩ := sl_sliced hle hr hn 0 j (Nat.zero_le _) hj
  rw [List.drop_zero, Nat.sub_zero] at h1
  refine ⟨_, fun w' => ?_, h1, h2⟩
  rw [run_slice_h w' 22 a m.length c slice22 .i64 j (by omega) (by omega), elem22, Try.sizeOf5]
  simp [Result.andThen]

theorem SL.drew {w : World} {u : Value} {m : List UInt8} (h : SL w u m) (n : Nat) : SL (w.drewN n) u m := h

theorem idx_sl (u : Value) (m : List UInt8) (cv : Int) (w : World) (h : SL w u m) :
    Calls Try.prog 19 #[u, .int .u8 cv] w fun e w' => e = .returned (.int .i64 (Lib.indexByte m cv.toNat.toUInt8)) ∧ w' = w := by
  obtain ⟨a, c, rfl, hle, hr, hn⟩ := h
  cases a with
  | none =>
    have hc := hn rfl
    have hm : m = [] := List.eq_nil_of_length_eq_zero (by omega)
    subst hm hc
    exact Try.bytes_IndexByte_nil cv w
  | some x =>
    have e : Lib.bytesOf (m.map fun b => (b.toNat : Int)) = m := by
      unfold Lib.bytesOf
      rw [List.map_map]
      exact List.map_id'' (fun b => by simp) m
    have := Try.bytes_IndexByte_at x m.length c (m.map fun b => (b.toNat : Int)) cv w (by simp) (fun i hi => by
      obtain ⟨b, o, hx, hc⟩ := hr i hi
      injection hx with hx
      subst hx
      rw [Addr.add_lit, hc]
      simp [hi])
    rwa [e] at this

/-- the index in m of the first c at or after k, or -1 -/
def nextI (m : List UInt8) (k : Nat) (c : UInt8) : Int := if 0 ≤ Lib.indexByte (m.drop k) c then k + Lib.indexByte (m.drop k) c else -1

theorem indexByte_lt : ∀ (l : List UInt8) (c : UInt8), Lib.indexByte l c < l.length
  | [], c => by simp [Lib.indexByte]
  | b :: l, c => by
    have := indexByte_lt l c
    simp only [Lib.indexByte, List.length_cons]
    split
    · omega
    · split <;> omega

theorem next_any (u : Value) (m : List UInt8) (k : Nat) (cv : Int) (w : World) (h : SL w u m) (hk : k ≤ m.length) (hm : m.length ≤ 1048576) :
    Calls Try.prog 17 #[u, .int .i64 k, .int .u8 cv] w fun e w' => e = .returned (.int .i64 (nextI m k cv.toNat.toUInt8)) ∧ w' = w := by
  obtain ⟨u', hrun, hu', _⟩ := h.fromI k hk
  have hlt := indexByte_lt (m.drop k) cv.toNat.toUInt8
  rw [List.length_drop] at hlt
  unfold nextI
  have hi0 := idx_sl u' (m.drop k) cv w hu'
  generalize Lib.indexByte (m.drop k) cv.toNat.toUInt8 = x at hlt hi0 ⊢
  by_cases hi : 0 ≤ x
  · rw [if_pos hi]
    go_enter Try.func17, Try.ntmps17
    go_wp2_with (go_at_call 19; refine hi0.mono ?_; rintro e w' ⟨rfl, rfl⟩)
    go_ret
    exact ⟨rfl, rfl⟩
  · rw [if_neg hi]
    go_enter Try.func17, Try.ntmps17
    go_wp2_with (go_at_call 19; refine hi0.mono ?_; rintro e w' ⟨rfl, rfl⟩)
    go_ret
    exact ⟨rfl, rfl⟩
end Go.Proofs.Qxb6617117a
