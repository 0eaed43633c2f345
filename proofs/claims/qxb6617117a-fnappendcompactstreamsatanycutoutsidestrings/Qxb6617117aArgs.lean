import Derived.Test.Qxb6617117aDrop
import Derived.OpenShut
namespace Go.Proofs.Qxb6617117a
open Go.RowKit Cm Go.ChangeShapes Go.WideShapes

/-- what the walk is told of a slice of bytes that came in, as the shell says it -/
def IsRow (k : IntKind) (w : World) (a : Option Addr) (len cap : Nat) (zs : List Int) : Prop :=
  (a = none ∧ len = 0 ∧ cap = 0 ∧ zs = []) ∨
  ∃ x, a = some x ∧ len ≤ cap ∧ cap ≤ maxLen ∧ zs.length = cap ∧ (∀ i, i < zs.length → w.cell? (x.add i) = some (.int k (zs.getD i 0))) ∧ ∀ n ∈ zs, (Lit.int k n).wf = true

/-- the bytes of the elements -/
def bytesZ (len : Nat) (zs : List Int) : List UInt8 := (zs.take len).map fun n => n.toNat.toUInt8

theorem row_len {w : World} {a : Option Addr} {len cap : Nat} {zs : List Int} (h : IsRow .u8 w a len cap zs) : (bytesZ len zs).length = len ∧ len ≤ 9223372036854775807 := by
  rcases h with ⟨_, rfl, _, rfl⟩ | ⟨x, _, h1, h2, h3, _⟩
  · exact ⟨rfl, by omega⟩
  · unfold bytesZ
    unfold maxLen at h2
    rw [List.length_map, List.length_take]
    omega

theorem row_sl {w : World} {a : Option Addr} {len cap : Nat} {zs : List Int} (h : IsRow .u8 w a len cap zs) : SL w (.slice a (bytesZ len zs).length cap) (bytesZ len zs) := by
  have hl := (row_len h).1
  rcases h with ⟨rfl, rfl, rfl, rfl⟩ | ⟨x, rfl, h1, h2, h3, hc, hw⟩
  · exact ⟨none, 0, rfl, Nat.le_refl _, fun j hj => by simp [bytesZ] at hj, fun _ => rfl⟩
  · refine ⟨some x, cap, rfl, by omega, fun j hj => ?_, fun h => by cases h⟩
    rw [hl] at hj
    obtain ⟨b, o, rfl, hc'⟩ := ints_at hc (by omega)
    refine ⟨b, o, rfl, ?_⟩
    rw [hc' j (by omega)]
    have hj2 : j < zs.length := by omega
    have hb := bounds_u8 (hw zs[j] (List.getElem_mem hj2))
    have e : zs.getD j 0 = zs[j] := by simp [List.getD, hj2]
    rw [e]
    congr 2
    simp only [bytesZ, List.getElem_map, List.getElem_take]
    simp
    omega

theorem drop_walk (a0 : Option Addr) (len0 cap0 : Nat) (z0 : List Int) (a1 : Option Addr) (len1 cap1 : Nat) (z1 : List Int) (w : World) (w0 : IsRow .u8 w a0 len0 cap0 z0) (w1 : IsRow .u8 w a1 len1 cap1 z1) :
    Calls Try.prog 3 #[.slice a0 len0 cap0, .slice a1 len1 cap1] w fun e w' => e = .returned (.bool true) ∧ Below w.heap.size w w' := by
  obtain ⟨l0, m0⟩ := row_len w0
  obtain ⟨l1, m1⟩ := row_len w1
  by_cases h : len0 + len1 ≤ 1048576
  · by_cases hb : 524288 < len0 ∨ 524288 < len1
    · exact drop_big a0 a1 len0 len1 cap0 cap1 w h hb
    · have := drop_main a0 a1 cap0 cap1 (bytesZ len0 z0) (bytesZ len1 z1) w (row_sl w0) (row_sl w1) (by omega) (by omega) (by omega)
      rwa [l0, l1] at this
  · exact drop_long a0 a1 len0 len1 cap0 cap1 w (by omega) m0 m1
end Go.Proofs.Qxb6617117a
