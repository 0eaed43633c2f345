/-
  Spaces outside strings: plain lists, no Go in sight.
-/
import Derived.Lib.Bytealg
namespace Go.Proofs.Qxb6617117a.Cm

/-- what the scanner writes: inS: inside a string; esc: behind a backslash -/
def run : Bool → Bool → List UInt8 → List UInt8
  | _, _, [] => []
  | true, esc, c :: l => c :: (if esc then run true false l else if c = 92 then run true true l else if c = 34 then run false false l else run true false l)
  | false, esc, c :: l => if c = 32 then run false esc l else c :: (if c = 34 then run true esc l else run false esc l)

/-- the scanner's state at the end -/
def fin : Bool → Bool → List UInt8 → Bool × Bool
  | i, e, [] => (i, e)
  | true, esc, _c :: l => if esc then fin true false l else if _c = 92 then fin true true l else if _c = 34 then fin false false l else fin true false l
  | false, esc, c :: l => if c = 32 then fin false esc l else if c = 34 then fin true esc l else fin false esc l

/-- the text without its spaces outside strings -/
def cm (l : List UInt8) : List UInt8 := run false false l

theorem run_len : ∀ (l : List UInt8) (i e : Bool), (run i e l).length ≤ l.length
  | [], i, e => by cases i <;> simp [run]
  | c :: l, true, e => by
    simp only [run, List.length_cons]
    have h := run_len l
    split
    · have := h true false; omega
    · split
      · have := h true true; omega
      · split
        · have := h false false; omega
        · have := h true false; omega
  | c :: l, false, e => by
    have h := run_len l
    simp only [run, List.length_cons]
    split
    · have := h false e; omega
    · split
      · have := h true e; simp; omega
      · have := h false e; simp; omega

theorem run_append : ∀ (a b : List UInt8) (i e : Bool), run i e (a ++ b) = run i e a ++ run (fin i e a).1 (fin i e a).2 b
  | [], b, i, e => by cases i <;> simp [run, fin]
  | c :: a, b, true, e => by
    simp only [List.cons_append, run, fin]
    split
    · rw [run_append a b]
    · split
      · rw [run_append a b]
      · split
        · rw [run_append a b]
        · rw [run_append a b]
  | c :: a, b, false, e => by
    simp only [List.cons_append, run, fin]
    split
    · rw [run_append a b]
    · split
      · rw [run_append a b, List.cons_append]
      · rw [run_append a b, List.cons_append]

theorem fin_append : ∀ (a b : List UInt8) (i e : Bool), fin i e (a ++ b) = fin (fin i e a).1 (fin i e a).2 b
  | [], b, i, e => by cases i <;> simp [fin]
  | c :: a, b, true, e => by
    simp only [List.cons_append, fin]
    split
    · rw [fin_append a b]
    · split
      · rw [fin_append a b]
      · split
        · rw [fin_append a b]
        · rw [fin_append a b]
  | c :: a, b, false, e => by
    simp only [List.cons_append, fin]
    split
    · rw [fin_append a b]
    · split
      · rw [fin_append a b]
      · rw [fin_append a b]

theorem fin_esc : ∀ (a : List UInt8) (i e : Bool), (i = false → e = false) → (fin i e a).1 = false → (fin i e a).2 = false
  | [], i, e, h, h1 => by
    cases i
    · simpa [fin] using h rfl
    · simp [fin] at h1
  | c :: a, true, e, _, h1 => by
    simp only [fin] at h1 ⊢
    split
    · rw [if_pos ‹_›] at h1
      exact fin_esc a true false (by simp) h1
    · rw [if_neg ‹_›] at h1
      split
      · rw [if_pos ‹_›] at h1
        exact fin_esc a true true (by simp) h1
      · rw [if_neg ‹_›] at h1
        split
        · rw [if_pos ‹_›] at h1
          exact fin_esc a false false (by simp) h1
        · rw [if_neg ‹_›] at h1
          exact fin_esc a true false (by simp) h1
  | c :: a, false, e, h, h1 => by
    have he := h rfl
    simp only [fin] at h1 ⊢
    split
    · rw [if_pos ‹_›] at h1
      exact fin_esc a false e h h1
    · rw [if_neg ‹_›] at h1
      split
      · rw [if_pos ‹_›] at h1
        exact fin_esc a true e (by simp) h1
      · rw [if_neg ‹_›] at h1
        exact fin_esc a false e h h1

/-- a cut outside strings -/
theorem cm_cut (l : List UInt8) (k : Nat) (h : (fin false false (l.take k)).1 = false) : cm l = cm (l.take k) ++ cm (l.drop k) := by
  have e := run_append (l.take k) (l.drop k) false false
  rw [List.take_append_drop, h, fin_esc _ _ _ (by simp) h] at e
  exact e

/-! ### outside a string -/
/-- neither a space nor a quote: copied -/
theorem run_plain : ∀ (a b : List UInt8), (∀ c ∈ a, c ≠ 32 ∧ c ≠ 34) → run false false (a ++ b) = a ++ run false false b
  | [], b, _ => rfl
  | c :: a, b, h => by
    have hc := h c (by simp)
    simp only [List.cons_append, run, if_neg hc.1, if_neg hc.2]
    rw [run_plain a b fun d hd => h d (by simp [hd])]

/-! ### inside a string -/
/-- behind a backslash, at the end of l -/
def est : Bool → List UInt8 → Bool
  | e, [] => e
  | e, c :: l => est (if e then false else c == 92) l

/-- a quote stands at i that closes the string s -/
def Closes (e : Bool) (s : List UInt8) (i : Nat) : Prop := s[i]? = some 34 ∧ est e (s.take i) = false

theorem run_close : ∀ (s : List UInt8) (e : Bool) (i : Nat), Closes e s i → (∀ j, j < i → ¬ Closes e s j) → run true e s = s.take (i + 1) ++ run false false (s.drop (i + 1))
  | [], e, i, h, _ => by simp [Closes] at h
  | c :: s, e, 0, h, _ => by
    have h1 : c = 34 := by simpa using h.1
    have h2 : e = false := by simpa [est] using h.2
    subst h1 h2
    simp [run]
  | c :: s, e, i + 1, h, hno => by
    have h0 : ¬ Closes e (c :: s) 0 := hno 0 (by omega)
    have h' : Closes (if e then false else c == 92) s i := ⟨by simpa using h.1, by simpa [est] using h.2⟩
    have hno' : ∀ j, j < i → ¬ Closes (if e then false else c == 92) s j := fun j hj hc => hno (j + 1) (by omega) ⟨by simpa using hc.1, by simpa [est] using hc.2⟩
    have ih := run_close s _ i h' hno'
    have e1 : run true e (c :: s) = c :: run true (if e then false else c == 92) s := by
      simp only [run]
      cases e with
      | true => simp
      | false =>
        by_cases h92 : c = 92
        · simp [h92]
        · have : c ≠ 34 := fun h34 => h0 ⟨by simp [h34], by simp [est]⟩
          have hb : (c == 92) = false := by simpa using h92
          simp [h92, this, hb]
    rw [e1, ih]
    simp

theorem run_open : ∀ (s : List UInt8) (e : Bool), (∀ j, ¬ Closes e s j) → run true e s = s
  | [], e, _ => by simp [run]
  | c :: s, e, hno => by
    have h0 : ¬ Closes e (c :: s) 0 := hno 0
    have hno' : ∀ j, ¬ Closes (if e then false else c == 92) s j := fun j hc => hno (j + 1) ⟨by simpa using hc.1, by simpa [est] using hc.2⟩
    have ih := run_open s _ hno'
    have e1 : run true e (c :: s) = c :: run true (if e then false else c == 92) s := by
      simp only [run]
      cases e with
      | true => simp
      | false =>
        by_cases h92 : c = 92
        · simp [h92]
        · have : c ≠ 34 := fun h34 => h0 ⟨by simp [h34], by simp [est]⟩
          have hb : (c == 92) = false := by simpa using h92
          simp [h92, this, hb]
    rw [e1, ih]

theorem est_append : ∀ (a b : List UInt8) (e : Bool), est e (a ++ b) = est (est e a) b
  | [], _, _ => rfl
  | c :: a, b, e => by simp only [List.cons_append, est]; rw [est_append a b]

theorem est_slashes (n : Nat) (e : Bool) : est e (List.replicate n 92) = (e ^^ (n % 2 == 1)) := by
  induction n generalizing e with
  | zero => simp [est]
  | succ n ih =>
    rw [List.replicate_succ, est, ih]
    rcases Nat.mod_two_eq_zero_or_one n with h | h
    · have : (n + 1) % 2 = 1 := by omega
      cases e <;> simp [h, this]
    · have : (n + 1) % 2 = 0 := by omega
      cases e <;> simp [h, this]

/-- b backslashes at the end, and no more: the state is their parity -/
theorem est_parity (p : List UInt8) (b : Nat) (hp : p = [] ∨ ∃ q c, p = q ++ [c] ∧ c ≠ 92) : est false (p ++ List.replicate b 92) = (b % 2 == 1) := by
  rw [est_append, est_slashes]
  have h0 : est false p = false := by
    rcases hp with rfl | ⟨q, c, rfl, hc⟩
    · rfl
    · rw [est_append]
      simp [est, hc]
  rw [h0, Bool.false_xor]

end Go.Proofs.Qxb6617117a.Cm
