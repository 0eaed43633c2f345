/-
  Names in a text, each closed by a 0 byte: plain lists, no Go in sight.
-/
import Derived.Lib.Bytealg
namespace Go.Proofs.Qxb6617139a.Names

/-- the names that l holds -/
def names : List UInt8 → List (List UInt8)
  | [] => []
  | c :: l => if c = 0 then [] :: names l else
    match names l with
    | [] => [[c]]
    | n :: ns => (c :: n) :: ns

/-- up to the first 0 -/
def hd : List UInt8 → List UInt8
  | [] => []
  | c :: l => if c = 0 then [] else c :: hd l
/-- behind the first 0 -/
def tl : List UInt8 → List UInt8
  | [] => []
  | c :: l => if c = 0 then l else tl l

theorem names_ne (l : List UInt8) (h : l ≠ []) : names l ≠ [] := by
  cases l with
  | nil => exact absurd rfl h
  | cons c l =>
    simp only [names]
    split
    · simp
    · split <;> simp

theorem names_c {c : UInt8} {l : List UInt8} {n : List UInt8} {ns : List (List UInt8)} (hc : c ≠ 0) (h : names l = n :: ns) : names (c :: l) = (c :: n) :: ns := by
  simp only [names, if_neg hc, h]
theorem hd_c {c : UInt8} (l : List UInt8) (hc : c ≠ 0) : hd (c :: l) = c :: hd l := by simp only [hd, if_neg hc]
theorem tl_c {c : UInt8} (l : List UInt8) (hc : c ≠ 0) : tl (c :: l) = tl l := by simp only [tl, if_neg hc]

theorem names_step : ∀ l : List UInt8, l ≠ [] → names l = hd l :: names (tl l)
  | [], h => absurd rfl h
  | c :: l, _ => by
    by_cases hc : c = 0
    · simp [names, hd, tl, hc]
    · cases l with
      | nil => simp [names, hd, tl, hc]
      | cons d l =>
        have ih := names_step (d :: l) (by simp)
        rw [names_c hc ih, hd_c _ hc, tl_c _ hc]

theorem tl_lt : ∀ l : List UInt8, l ≠ [] → (tl l).length < l.length
  | [], h => absurd rfl h
  | c :: l, _ => by
    by_cases hc : c = 0
    · simp [tl, hc]
    · cases l with
      | nil => simp [tl, hc]
      | cons d l =>
        have ih := tl_lt (d :: l) (by simp)
        rw [tl, if_neg hc]
        simp at ih ⊢
        omega

theorem hd_le : ∀ l : List UInt8, (hd l).length ≤ l.length
  | [] => by simp [hd]
  | c :: l => by
    have := hd_le l
    simp only [hd]
    split
    · simp
    · simp; omega

theorem names_len : ∀ l : List UInt8, (names l).length ≤ l.length
  | [] => by simp [names]
  | c :: l => by
    have ih := names_len l
    simp only [names]
    split
    · simp; omega
    · split
      · simp
      · rename_i h; rw [h] at ih; simp at ih ⊢; omega

theorem names_append : ∀ (a b : List UInt8), (a = [] ∨ a.getLast? = some 0) → names (a ++ b) = names a ++ names b
  | [], b, _ => by simp [names]
  | c :: a, b, h => by
    have hl : (c :: a).getLast? = some 0 := by
      rcases h with h | h
      · cases h
      · exact h
    cases a with
    | nil =>
      simp at hl
      simp [names, hl]
    | cons d a =>
      have ih := names_append (d :: a) b (.inr (by simpa using hl))
      by_cases hc : c = 0
      · simp only [List.cons_append, names, if_pos hc]
        simp only [List.cons_append, names] at ih
        rw [ih]
      · cases hn : names (d :: a) with
        | nil => exact absurd hn (names_ne (d :: a) (by simp))
        | cons n ns =>
          rw [hn] at ih
          rw [names_c hc hn, List.cons_append, names_c hc ih]
          rfl

/-- where indexByte finds a 0, hd and tl are the text on its two sides -/
theorem index_hd : ∀ (l : List UInt8) (i : Nat), Lib.indexByte l 0 = i → hd l = l.take i ∧ tl l = l.drop (i + 1) ∧ i < l.length
  | [], i, h => by simp [Lib.indexByte] at h
  | c :: l, i, h => by
    by_cases hc : c = 0
    · subst hc
      simp [Lib.indexByte] at h
      have : i = 0 := by omega
      subst this
      simp [hd, tl]
    · have hb : (c == 0) = false := by simpa using hc
      simp only [Lib.indexByte, hb] at h
      by_cases h1 : Lib.indexByte l 0 = -1
      · simp [h1] at h
      · have h2 : (Lib.indexByte l 0 == -1) = false := by simpa using h1
        have hge := Lib.indexByte_ge l 0
        simp only [h2] at h
        obtain ⟨j, hj⟩ : ∃ j : Nat, Lib.indexByte l 0 = j := ⟨(Lib.indexByte l 0).toNat, by omega⟩
        have ih := index_hd l j hj
        have hi : i = j + 1 := by simp at h; omega
        subst hi
        simp only [hd, tl, if_neg hc, ih.1, ih.2.1, List.length_cons]
        refine ⟨by simp, by simp, by omega⟩

theorem index_none : ∀ l : List UInt8, Lib.indexByte l 0 < 0 → hd l = l ∧ tl l = []
  | [], _ => by simp [hd, tl]
  | c :: l, h => by
    by_cases hc : c = 0
    · subst hc
      simp [Lib.indexByte] at h
    · have hb : (c == 0) = false := by simpa using hc
      simp only [Lib.indexByte, hb] at h
      have hge := Lib.indexByte_ge l 0
      by_cases h1 : Lib.indexByte l 0 = -1
      · have ih := index_none l (by omega)
        simp [hd, tl, hc, ih.1, ih.2]
      · have h2 : (Lib.indexByte l 0 == -1) = false := by simpa using h1
        simp only [h2] at h
        simp at h
        omega

/-- no name holds a 0 -/
theorem hd_no0 : ∀ (l : List UInt8), ∀ x ∈ hd l, x ≠ 0
  | [], x, h => by simp [hd] at h
  | c :: l, x, h => by
    simp only [hd] at h
    split at h
    · simp at h
    · rename_i hc
      rcases List.mem_cons.1 h with rfl | h
      · exact hc
      · exact hd_no0 l x h

/-- the text with a 0 added where it does not end in one -/
def closed (l : List UInt8) : List UInt8 := if l.getLast? = some 0 then l else l ++ [0]

/-- each name followed by a 0 -/
def laid (ns : List (List UInt8)) : List UInt8 := ns.flatMap (fun n => n ++ [0])

theorem laid_names : ∀ l : List UInt8, l ≠ [] → laid (names l) = closed l
  | [], h => absurd rfl h
  | c :: l, _ => by
    cases l with
    | nil =>
      by_cases hc : c = 0
      · simp [names, hc, laid, closed]
      · simp [names, hc, laid, closed]
    | cons d l =>
      have ih := laid_names (d :: l) (by simp)
      have e : closed (c :: d :: l) = c :: closed (d :: l) := by
        unfold closed
        rw [List.getLast?_cons_cons]
        split <;> simp
      rw [e, ← ih]
      by_cases hc : c = 0
      · rw [names, if_pos hc, hc]
        simp [laid]
      · rw [names, if_neg hc]
        cases hn : names (d :: l) with
        | nil => exact absurd hn (names_ne _ (by simp))
        | cons n ns => simp [laid]

theorem names_no0 : ∀ (l : List UInt8), ∀ n ∈ names l, ∀ x ∈ n, x ≠ 0
  | [], n, h => by simp [names] at h
  | c :: l, n, h => by
    have ih := names_no0 l
    simp only [names] at h
    split at h
    · rcases List.mem_cons.1 h with rfl | h
      · simp
      · exact ih n h
    · rename_i hc
      split at h
      · simp at h
        subst h
        simpa using hc
      · rename_i m ms hm
        rw [hm] at ih
        rcases List.mem_cons.1 h with rfl | h
        · intro x hx
          rcases List.mem_cons.1 hx with rfl | hx
          · exact hc
          · exact ih m (by simp) x hx
        · exact ih n (by simp [h])

end Go.Proofs.Qxb6617139a.Names
