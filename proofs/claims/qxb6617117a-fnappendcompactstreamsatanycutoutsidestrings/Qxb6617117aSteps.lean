import Derived.Test.Qxb6617117aClose
namespace Go.Proofs.Qxb6617117a
open Go.RowKit Cm

/-- what nextI says -/
theorem next_spec (m : List UInt8) (k : Nat) (c : UInt8) :
    (nextI m k c = -1 ∧ ∀ j, k ≤ j → m[j]? ≠ some c) ∨ ∃ q : Nat, nextI m k c = q ∧ k ≤ q ∧ q < m.length ∧ m[q]? = some c ∧ ∀ j, k ≤ j → j < q → m[j]? ≠ some c := by
  unfold nextI
  by_cases h : 0 ≤ Lib.indexByte (m.drop k) c
  · right
    obtain ⟨d, hd⟩ : ∃ d : Nat, Lib.indexByte (m.drop k) c = d := ⟨(Lib.indexByte (m.drop k) c).toNat, by omega⟩
    obtain ⟨h1, h2⟩ := index_at hd
    rw [List.getElem?_drop] at h1
    refine ⟨k + d, by rw [if_pos h, hd]; simp, by omega, (List.getElem?_eq_some_iff.1 h1).1, h1, fun j hj1 hj2 => ?_⟩
    have := h2 (j - k) (by omega)
    rwa [List.getElem?_drop, show k + (j - k) = j by omega] at this
  · left
    refine ⟨if_neg h, fun j hj => ?_⟩
    have := index_neg (l := m.drop k) (c := c) (by omega) (j - k)
    rwa [List.getElem?_drop, show k + (j - k) = j by omega] at this

/-- two numbers that say so are one -/
theorem next_none {m : List UInt8} {k : Nat} {c : UInt8} (h : ∀ j, k ≤ j → m[j]? ≠ some c) : nextI m k c = -1 := by
  rcases next_spec m k c with ⟨h1, _⟩ | ⟨q, _, hk, _, hq, _⟩
  · exact h1
  · exact absurd hq (h q hk)
theorem next_some {m : List UInt8} {k q : Nat} {c : UInt8} (hk : k ≤ q) (hq : m[q]? = some c) (h : ∀ j, k ≤ j → j < q → m[j]? ≠ some c) : nextI m k c = q := by
  rcases next_spec m k c with ⟨_, h1⟩ | ⟨p, h1, hkp, _, hp, hno⟩
  · exact absurd hq (h1 q hk)
  · rw [h1]
    have h2 : ¬ p < q := fun hlt => h p hkp hlt hp
    have h3 : ¬ q < p := fun hlt => hno q hk hlt hq
    congr 1
    omega

theorem mem_take_drop {m : List UInt8} {k n : Nat} {c : UInt8} (h : c ∈ (m.drop k).take n) : ∃ j, k ≤ j ∧ j < k + n ∧ m[j]? = some c := by
  obtain ⟨i, hi, rfl⟩ := List.mem_iff_getElem.1 h
  rw [List.length_take, List.length_drop] at hi
  refine ⟨k + i, by omega, by omega, ?_⟩
  rw [List.getElem?_eq_getElem (by omega)]
  simp

theorem run_space (l : List UInt8) : run false false (32 :: l) = run false false l := by simp [run]
theorem run_quote (l : List UInt8) : run false false (34 :: l) = 34 :: run true false l := by simp [run]

/-- up to a space -/
theorem stepA {m : List UInt8} {k sp : Nat} (hk : k ≤ sp) (hs : m[sp]? = some 32) (h32 : ∀ j, k ≤ j → j < sp → m[j]? ≠ some 32) (h34 : ∀ j, k ≤ j → j < sp → m[j]? ≠ some 34) :
    run false false (m.drop k) = (m.drop k).take (sp - k) ++ run false false (m.drop (sp + 1)) := by
  obtain ⟨hlt, hs'⟩ := List.getElem?_eq_some_iff.1 hs
  have e : m.drop k = (m.drop k).take (sp - k) ++ 32 :: m.drop (sp + 1) := by
    conv => lhs; rw [← List.take_append_drop (sp - k) (m.drop k)]
    rw [List.drop_drop, show k + (sp - k) = sp by omega, List.drop_eq_getElem_cons hlt, hs']
  conv => lhs; rw [e]
  rw [run_plain _ _ fun c hc => ?_, run_space]
  obtain ⟨j, h1, h2, h3⟩ := mem_take_drop hc
  exact ⟨fun h => h32 j h1 (by omega) (by rw [h3, h]), fun h => h34 j h1 (by omega) (by rw [h3, h])⟩

/-- neither a space nor a quote to come -/
theorem stepC {m : List UInt8} {k : Nat} (h32 : ∀ j, k ≤ j → m[j]? ≠ some 32) (h34 : ∀ j, k ≤ j → m[j]? ≠ some 34) : run false false (m.drop k) = m.drop k := by
  have := run_plain (m.drop k) [] fun c hc => by
    obtain ⟨i, hi, rfl⟩ := List.mem_iff_getElem.1 hc
    rw [List.length_drop] at hi
    have e : m[k + i]? = some (m.drop k)[i] := by rw [List.getElem?_eq_getElem (by omega)]; simp
    exact ⟨fun h => h32 (k + i) (by omega) (by rw [e, h]), fun h => h34 (k + i) (by omega) (by rw [e, h])⟩
  simpa [run] using this

/-- a string: from its quote to its end -/
theorem close_run {s : List UInt8} {r : Int} (h : ClosesAt s r) : ∃ e : Nat, (e : Int) = r + 1 ∧ e ≤ s.length ∧ run true false s = s.take e ++ run false false (s.drop e) := by
  rcases h with ⟨i, rfl, hc, hno⟩ | ⟨rfl, hno⟩
  · have hi := (List.getElem?_eq_some_iff.1 hc.1).1
    exact ⟨i + 1, by omega, by omega, run_close s false i hc hno⟩
  · refine ⟨s.length, by omega, Nat.le_refl _, ?_⟩
    rw [run_open s false hno]
    simp [run]

theorem stepB {m : List UInt8} {k q : Nat} {r : Int} (hk : k ≤ q) (hq : m[q]? = some 34) (h32 : ∀ j, k ≤ j → j < q → m[j]? ≠ some 32) (h34 : ∀ j, k ≤ j → j < q → m[j]? ≠ some 34) (hr : ClosesAt (m.drop (q + 1)) r) :
    ∃ e : Nat, (e : Int) = q + 1 + r + 1 ∧ q + 1 ≤ e ∧ e ≤ m.length ∧ run false false (m.drop k) = (m.drop k).take (e - k) ++ run false false (m.drop e) := by
  obtain ⟨hlt, hq'⟩ := List.getElem?_eq_some_iff.1 hq
  obtain ⟨e, he, hle, hrun⟩ := close_run hr
  rw [List.length_drop] at hle
  refine ⟨q + 1 + e, by omega, by omega, by omega, ?_⟩
  have e1 : m.drop k = (m.drop k).take (q - k) ++ 34 :: m.drop (q + 1) := by
    conv => lhs; rw [← List.take_append_drop (q - k) (m.drop k)]
    rw [List.drop_drop, show k + (q - k) = q by omega, List.drop_eq_getElem_cons hlt, hq']
  have e2 : run false false (m.drop k) = (m.drop k).take (q - k) ++ 34 :: ((m.drop (q + 1)).take e ++ run false false (m.drop (q + 1 + e))) := by
    conv => lhs; rw [e1]
    rw [run_plain _ _ fun c hc => ?_, run_quote, hrun, List.drop_drop]
    obtain ⟨j, h1, h2, h3⟩ := mem_take_drop hc
    exact ⟨fun h => h32 j h1 (by omega) (by rw [h3, h]), fun h => h34 j h1 (by omega) (by rw [h3, h])⟩
  have e3 : (m.drop k).take (q + 1 + e - k) = (m.drop k).take (q - k) ++ 34 :: (m.drop (q + 1)).take e := by
    conv => lhs; rw [e1]
    have hl : ((m.drop k).take (q - k)).length = q - k := by rw [List.length_take, List.length_drop]; omega
    rw [List.take_append, hl, List.take_of_length_le (by omega), show q + 1 + e - k - (q - k) = e + 1 by omega, List.take_succ_cons]
  rw [e2, e3]
  simp

end Go.Proofs.Qxb6617117a
