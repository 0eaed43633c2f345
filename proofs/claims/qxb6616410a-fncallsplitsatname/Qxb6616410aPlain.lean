/-
  Names of calls in a text: plain lists, no Go in sight.
-/
import Derived.Lib.Bytealg
import Derived.Lib.Strings
namespace Go.Proofs.Qxb6616410a.Names

def digB (c : Int) : Bool := decide (48 ≤ c ∧ c ≤ 57)
def upB (c : Int) : Bool := decide (65 ≤ c ∧ c ≤ 90)
def alB (c : Int) : Bool := decide ((48 ≤ c ∧ c ≤ 57) ∨ (65 ≤ c ∧ c ≤ 90) ∨ (97 ≤ c ∧ c ≤ 122))
/-- a byte of a name -/
def okB (c : Int) : Bool := decide ((48 ≤ c ∧ c ≤ 57) ∨ (65 ≤ c ∧ c ≤ 90) ∨ (97 ≤ c ∧ c ≤ 122) ∨ c = 95)
/-- all bytes of l are a name's -/
def allB (l : List UInt8) : Bool := l.all fun c => okB c.toNat
/-- l is a call's name -/
def nameB (l : List UInt8) : Bool := l == [63, 63, 63] || (match l with | [] => false | c :: _ => !digB c.toNat && allB l)
/-- up to the first opening parenthesis -/
def upTo : List UInt8 → List UInt8
  | [] => []
  | c :: l => if c = 40 then [] else c :: upTo l
/-- l holds an opening parenthesis -/
def hasP (l : List UInt8) : Bool := l.any fun c => c == 40
/-- the name of the call that l begins with; empty where there is none -/
def nm (l : List UInt8) : List UInt8 := if hasP l && nameB (upTo l) then upTo l else []

theorem nameB_nil : nameB [] = false := by decide

theorem index_upTo : ∀ (l : List UInt8) (i : Nat), Lib.indexByte l 40 = i → upTo l = l.take i ∧ hasP l = true ∧ i < l.length
  | [], i, h => by simp [Lib.indexByte] at h
  | c :: l, i, h => by
    by_cases hc : c = 40
    · subst hc
      simp [Lib.indexByte] at h
      have : i = 0 := by omega
      subst this
      simp [upTo, hasP]
    · have hb : (c == 40) = false := by simpa using hc
      simp only [Lib.indexByte, hb] at h
      by_cases h1 : Lib.indexByte l 40 = -1
      · simp [h1] at h
      · have h2 : (Lib.indexByte l 40 == -1) = false := by simpa using h1
        have hge := Lib.indexByte_ge l 40
        simp only [h2] at h
        obtain ⟨j, hj⟩ : ∃ j : Nat, Lib.indexByte l 40 = j := ⟨(Lib.indexByte l 40).toNat, by omega⟩
        have ih := index_upTo l j hj
        have hi : i = j + 1 := by simp at h; omega
        subst hi
        refine ⟨by simp [upTo, hc, ih.1], ?_, by simp; omega⟩
        have := ih.2.1
        unfold hasP at this ⊢
        simp only [List.any_cons, this, Bool.or_true]

theorem index_no : ∀ l : List UInt8, Lib.indexByte l 40 < 0 → hasP l = false
  | [], _ => rfl
  | c :: l, h => by
    by_cases hc : c = 40
    · subst hc
      simp [Lib.indexByte] at h
    · have hb : (c == 40) = false := by simpa using hc
      simp only [Lib.indexByte, hb] at h
      have hge := Lib.indexByte_ge l 40
      by_cases h1 : Lib.indexByte l 40 = -1
      · have ih := index_no l (by omega)
        unfold hasP at ih ⊢
        simp only [List.any_cons, hb, ih, Bool.or_self]
      · have h2 : (Lib.indexByte l 40 == -1) = false := by simpa using h1
        simp only [h2] at h
        simp at h
        omega

/-- where l holds a parenthesis: what is up to it, it, and the rest -/
theorem split_at : ∀ l : List UInt8, hasP l = true → l = upTo l ++ 40 :: l.drop ((upTo l).length + 1)
  | [], h => by simp [hasP] at h
  | c :: l, h => by
    by_cases hc : c = 40
    · subst hc
      simp [upTo]
    · have hb : (c == 40) = false := by simpa using hc
      have h2 : hasP l = true := by
        unfold hasP at h ⊢
        simpa only [List.any_cons, hb, Bool.false_or] using h
      have ih := split_at l h2
      simp only [upTo, if_neg hc, List.cons_append, List.length_cons, List.drop_succ_cons]
      rw [← ih]

theorem upTo_append : ∀ (l m : List UInt8), hasP l = true → upTo (l ++ m) = upTo l
  | [], m, h => by simp [hasP] at h
  | c :: l, m, h => by
    by_cases hc : c = 40
    · simp [upTo, hc]
    · have hb : (c == 40) = false := by simpa using hc
      have h2 : hasP l = true := by
        unfold hasP at h ⊢
        simpa only [List.any_cons, hb, Bool.false_or] using h
      simp [upTo, hc, upTo_append l m h2]

theorem hasP_append (l m : List UInt8) (h : hasP l = true) : hasP (l ++ m) = true := by
  unfold hasP at *
  rw [List.any_append, h]
  rfl

theorem nm_append (l m : List UInt8) (h : hasP l = true) : nm (l ++ m) = nm l := by
  unfold nm
  rw [hasP_append l m h, h, upTo_append l m h]

theorem upTo_le : ∀ l : List UInt8, (upTo l).length ≤ l.length
  | [] => by simp [upTo]
  | c :: l => by
    have := upTo_le l
    simp only [upTo]
    split
    · simp
    · simp; omega

/-- a text that is not empty is longer than its name -/
theorem nm_lt (l : List UInt8) (h : l ≠ []) : (nm l).length < l.length := by
  unfold nm
  split
  · rename_i hh
    have h1 : hasP l = true := by
      cases hp : hasP l
      · simp [hp] at hh
      · rfl
    have e := congrArg List.length (split_at l h1)
    simp at e
    omega
  · exact List.length_pos_iff.2 h

theorem nm_ne (l : List UInt8) (h : nm l ≠ []) : hasP l = true ∧ nameB (upTo l) = true ∧ nm l = upTo l := by
  unfold nm at h ⊢
  split at h
  · rename_i hh
    rw [if_pos hh]
    simp only [Bool.and_eq_true] at hh
    exact ⟨hh.1, hh.2, rfl⟩
  · exact absurd rfl h

theorem nm_split (l : List UInt8) (h : nm l ≠ []) : l = nm l ++ 40 :: l.drop ((nm l).length + 1) := by
  obtain ⟨h1, _, h3⟩ := nm_ne l h
  rw [h3]
  exact split_at l h1

theorem upTo_noP : ∀ l : List UInt8, hasP (upTo l) = false
  | [] => rfl
  | c :: l => by
    by_cases hc : c = 40
    · simp [upTo, hc, hasP]
    · have hb : (c == 40) = false := by simpa using hc
      have ih := upTo_noP l
      simp only [upTo, if_neg hc]
      unfold hasP at ih ⊢
      simp only [List.any_cons, hb, ih, Bool.or_self]

/-- no name: the text has no named split -/
theorem nm_nil (l : List UInt8) (h : nm l = []) : (hasP l && nameB (upTo l)) = false := by
  unfold nm at h
  split at h
  · rw [h, nameB_nil, Bool.and_false]
  · rename_i hh
    simpa using hh

theorem drop_append_le (l m : List UInt8) (n : Nat) (h : n ≤ l.length) : (l ++ m).drop n = l.drop n ++ m := by
  rw [List.drop_append, Nat.sub_eq_zero_of_le h]
  rfl

end Go.Proofs.Qxb6616410a.Names
