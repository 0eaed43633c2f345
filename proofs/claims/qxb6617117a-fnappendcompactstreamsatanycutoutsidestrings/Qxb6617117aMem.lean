import Derived.Test.Qxb6617117aRows
import Derived.Test.Qxb6617117aShelf
import Derived.Test.Qxb6617117aPlain
import Derived.WalkKit
import Derived.WalkMore
import Derived.WalkSpells
import Derived.WalkLawsBesides
import Derived.Deep.QuietTactic
import Derived.BigQuiet
import Derived.Deep.LoopGhost
import Derived.Deep.RegionWith
import Derived.Deep.DeepFit
import Derived.Deep.Upon
import Derived.Lib.AppendZeros
namespace Go.Proofs.Qxb6617117a
open Go.RowKit Cm

theorem ret_bool {a b : Bool} (h : a = b) : Ending.returned (.bool a) = .returned (.bool b) := by rw [h]
theorem ret_int {k : IntKind} {a b : Int} (h : a = b) : Ending.returned (.int k a) = .returned (.int k b) := by rw [h]

/-- the cells of the bytes l -/
def cellsU (l : List UInt8) : List Value := l.map fun b => .int .u8 b.toNat
theorem cellsU_len (l : List UInt8) : (cellsU l).length = l.length := by simp [cellsU]
theorem cellsU_at {l : List UInt8} {j : Nat} {u : Value} (h : (cellsU l)[j]? = some u) : ∃ hj : j < l.length, u = .int .u8 l[j].toNat := by
  unfold cellsU at h
  rw [List.getElem?_map, Option.map_eq_some_iff] at h
  obtain ⟨x, hx, rfl⟩ := h
  obtain ⟨hj, rfl⟩ := List.getElem?_eq_some_iff.1 hx
  exact ⟨hj, rfl⟩
theorem cellsU_one (l : List UInt8) : ∀ u ∈ cellsU l, u.oneCell' = true := by
  intro u hu
  obtain ⟨_, _, rfl⟩ := List.mem_map.1 hu
  rfl

/-- the cells at a hold the bytes l -/
def Rd (w : World) (a : Option Addr) (l : List UInt8) : Prop :=
  ∀ j (h : j < l.length), ∃ b o, a = some ⟨b, o, none⟩ ∧ w.cell? ⟨b, o + j, none⟩ = some (.int .u8 (l[j].toNat : Int))

/-- v is a slice of the bytes l -/
def SL (w : World) (v : Value) (l : List UInt8) : Prop := ∃ a c, v = .slice a l.length c ∧ l.length ≤ c ∧ Rd w a l ∧ (a = none → c = 0)

/-- v is a slice of the bytes l whose array is the call's own, from its head -/
def Own (w : World) (v : Value) (l : List UInt8) : Prop :=
  (v = .slice none 0 0 ∧ l = []) ∨ ∃ g cap, v = .slice (some ⟨g, 0, none⟩) l.length cap ∧ l.length ≤ cap ∧ (∀ j (h : j < l.length), w.cell? ⟨g, j, none⟩ = some (.int .u8 (l[j].toNat : Int))) ∧
    (∀ j, j < cap → (w.cell? ⟨g, j, none⟩).isSome = true ∧ w.frozen? ⟨g, j, none⟩ = false) ∧ g < w.heap.size

theorem Own.sl {w : World} {v : Value} {l : List UInt8} (h : Own w v l) : SL w v l := by
  rcases h with ⟨rfl, rfl⟩ | ⟨g, cap, rfl, hle, hc, _, _⟩
  · exact ⟨none, 0, rfl, Nat.le_refl _, fun j hj => by simp at hj, fun _ => rfl⟩
  · exact ⟨_, cap, rfl, hle, fun j hj => ⟨g, 0, rfl, by rw [Nat.zero_add]; exact hc j hj⟩, fun h => by cases h⟩

theorem Own.lt {w : World} {v : Value} {l : List UInt8} (h : Own w v l) : ∀ k, v.ownBlock = some k → k < w.heap.size := by
  intro k hk
  rcases h with ⟨rfl, rfl⟩ | ⟨g, cap, rfl, hle, hc, _, hg⟩
  · simp [Value.ownBlock] at hk
  · simp [Value.ownBlock] at hk
    omega

/-- a slice lies as it did where its block has not been written -/
theorem SL.kept {w w' : World} {v : Value} {l : List UInt8} (h : SL w v l) (hb : ∀ k, k < w.heap.size → v.ownBlock = some k → w'.heap[k]? = w.heap[k]?) : SL w' v l := by
  obtain ⟨a, c, rfl, hle, hr, hn⟩ := h
  refine ⟨a, c, rfl, hle, fun j hj => ?_, hn⟩
  obtain ⟨b, o, rfl, hc⟩ := hr j hj
  exact ⟨b, o, rfl, (World.cell?_of_block (w := w) (hb b (World.block_lt_of_cell? w _ hc) rfl)).trans hc⟩

theorem Own.kept {w w' : World} {v : Value} {l : List UInt8} (h : Own w v l) (hb : ∀ k, v.ownBlock = some k → w'.heap[k]? = w.heap[k]?) (hz : w.heap.size ≤ w'.heap.size) : Own w' v l := by
  rcases h with h | ⟨g, cap, rfl, hle, hc, hf, hg⟩
  · exact .inl h
  · have e := hb g rfl
    refine .inr ⟨g, cap, rfl, hle, fun j hj => (World.cell?_of_block (w := w) (a := ⟨g, j, none⟩) e).trans (hc j hj), fun j hj => ?_, by omega⟩
    rw [World.cell?_of_block (w := w) (w' := w') (a := ⟨g, j, none⟩) e, World.frozen?_of_block (w := w) (w' := w') (a := ⟨g, j, none⟩) e]
    exact hf j hj

theorem info5 : (Try.prog.info? 5).map (fun i => (i.zero, i.size, i.bytes)) = some (some (.int .u8 0), 1, 1) := by kernel_rfl

/-- what a slice of bytes yields to an append -/
theorem SL.src {w : World} {u : Value} {m : List UInt8} (h : SL w u m) : Src Try.prog 1 22 u m.length (cellsU m) w := by
  obtain ⟨a, c, rfl, hle, hr, hn⟩ := h
  cases a with
  | none =>
    have hc := hn rfl
    have hm : m = [] := List.eq_nil_of_length_eq_zero (by omega)
    subst hm
    exact Src.ofNil w Try.underlying22 c
  | some x =>
    refine Src.ofSlice w Try.underlying22 x m.length c (cellsU m) (by rw [cellsU_len, Nat.mul_one]) ?_ (cellsU_one m)
    intro j v hv
    obtain ⟨hj, rfl⟩ := cellsU_at hv
    obtain ⟨b, o, e, hc⟩ := hr j hj
    injection e with e
    subst e
    rw [Addr.add_lit]
    exact hc

theorem setCells_size (g : Nat) : ∀ (vs : List Value) (o : Nat) (w : World), (w.setCells g o vs).heap.size = w.heap.size
  | [], _, _ => rfl
  | v :: vs, o, w => by
    show ((w.setCell ⟨g, o, none⟩ v).setCells g (o + 1) vs).heap.size = _
    rw [setCells_size g vs]
    simp [World.setCell]

theorem setCells_tape (g : Nat) : ∀ (vs : List Value) (o : Nat) (w : World), (w.setCells g o vs).tape = w.tape
  | [], _, _ => rfl
  | v :: vs, o, w => by
    show ((w.setCell ⟨g, o, none⟩ v).setCells g (o + 1) vs).tape = _
    rw [setCells_tape g vs]
    rfl

theorem grown_setCells (w : World) (g o : Nat) (vs : List Value) : w.grownBy (w.setCells g o vs) (some g) :=
  ⟨World.os_setCells _ _ _ _, setCells_tape _ _ _ _, World.output_setCells _ _ _ _, by rw [setCells_size]; exact Nat.le_refl _, fun k hk hne => World.heap_setCells_other w g o vs hk (fun e => hne (by rw [e]))⟩

/-- a new row of the call's own -/
theorem new_row (w : World) (l : List UInt8) (k : Nat) (row : Option Nat) :
    Own (w.drew.alloc (.cells ((cellsU l).toArray ++ Builtin.zeroCells (Value.int .u8 0).cells k) 5)) (.slice (some ⟨w.heap.size, 0, none⟩) l.length (l.length + k)) l ∧
      w.grownBy (w.drew.alloc (.cells ((cellsU l).toArray ++ Builtin.zeroCells (Value.int .u8 0).cells k) 5)) row := by
  have hz : (Builtin.zeroCells (Value.int .u8 0).cells k).size = k := by rw [size_zeroCells]; simp [Value.cells]
  have hcell : ∀ j, (w.drew.alloc (.cells ((cellsU l).toArray ++ Builtin.zeroCells (Value.int .u8 0).cells k) 5)).cell? ⟨w.heap.size, j, none⟩ = ((cellsU l).toArray ++ Builtin.zeroCells (Value.int .u8 0).cells k)[j]? := fun j => World.cell?_alloc_mark w.drew _ _ _ j
  refine ⟨.inr ⟨w.heap.size, _, rfl, by omega, fun j hj => ?_, fun j hj => ⟨?_, ?_⟩, ?_⟩, ⟨rfl, rfl, rfl, ?_, fun i hi _ => Below.heap_alloc w.drew _ i hi⟩⟩
  · rw [hcell, Array.getElem?_append_left (by simpa [cellsU] using hj)]
    simp [cellsU, hj]
  · rw [hcell]
    have : j < ((cellsU l).toArray ++ Builtin.zeroCells (Value.int .u8 0).cells k).size := by
      rw [Array.size_append, hz, List.size_toArray, cellsU_len]
      exact hj
    rw [Array.getElem?_eq_getElem this]
    rfl
  · exact World.frozen?_alloc_at (w := w.drew) _ _ _ j rfl
  · show w.heap.size < (w.heap.push _).size
    simp
  · show w.heap.size ≤ (w.heap.push _).size
    simp

/-- append onto a slice of the call's own, out of whatever slice of bytes -/
theorem own_append {w : World} {v u : Value} {l m : List UInt8} (ho : Own w v l) (hs : SL w u m) (hb : l.length + m.length ≤ 16777216) :
    ∃ v' w', (∀ ty, (Builtin.append_ #[22, 22] ty #[v, u]).run Try.prog w = .ok v' w') ∧ Own w' v' (l ++ m) ∧ w.grownBy w' v.ownBlock ∧ (v'.ownBlock = v.ownBlock ∨ v'.ownBlock = some w.heap.size) := by
  obtain ⟨i0, hi, hz0, hz1, hz2⟩ := info_parts info5
  have S := hs.src
  by_cases hm : m = []
  · subst hm
    refine ⟨v, w, fun ty => ?_, by rw [List.append_nil]; exact ho, ⟨rfl, rfl, rfl, Nat.le_refl _, fun _ _ _ => rfl⟩, .inl rfl⟩
    rw [← hz1] at S
    rcases ho with ⟨rfl, rfl⟩ | ⟨g, cap, rfl, hle, _⟩
    · exact run_append_nothing w 22 22 ty 5 i0 Try.underlying22 hi none 0 0 (Nat.le_refl _) u S
    · exact run_append_nothing w 22 22 ty 5 i0 Try.underlying22 hi _ _ cap hle u S
  · have hpos : 0 < m.length := List.length_pos_iff.2 hm
    rw [← hz1] at S
    rcases ho with ⟨rfl, rfl⟩ | ⟨g, cap, rfl, hle, hc, hf, hg⟩
    · have hr := fun ty => run_append_grow_src (P := Try.prog) w 22 22 ty 5 i0 (.int .u8 0) Try.underlying22 hi hz0 none 0 0 [] (run_firstCells_none w.drew _ _ _ _) u m.length (cellsU m) S (by omega) (by omega)
        (growslice_fits (by omega) (by rw [hz2]; simp at hb; omega))
      have hge := grownCap_ge w (0 + m.length) 0 5
      obtain ⟨k, hk⟩ : ∃ k, grownCap w (0 + m.length) 0 5 = m.length + k := ⟨grownCap w (0 + m.length) 0 5 - m.length, by omega⟩
      obtain ⟨h1, h2⟩ := new_row w m k (Value.ownBlock (.slice none 0 0))
      refine ⟨_, _, fun ty => ?_, by rw [List.nil_append]; exact h1, h2, .inr rfl⟩
      rw [hr ty, hk]
      simp
    · by_cases hroom : l.length + m.length ≤ cap
      · have hr := fun ty => run_append_room_src (P := Try.prog) w 22 22 ty 5 i0 Try.underlying22 hi g 0 l.length cap u m.length (cellsU m) S hroom
          (by rw [cellsU_len, hz1]; intro j hj; rw [Nat.zero_add, Nat.mul_one]; exact (hf _ (by omega)).1) (by rw [cellsU_len, hz1]; intro j hj; rw [Nat.zero_add, Nat.mul_one]; exact (hf _ (by omega)).2)
        rw [hz1, Nat.zero_add, Nat.mul_one] at hr
        refine ⟨_, _, hr, ?_, grown_setCells w g l.length (cellsU m), .inl rfl⟩
        refine .inr ⟨g, cap, by rw [List.length_append], by rw [List.length_append]; exact hroom, fun j hj => ?_, fun j hj => ⟨?_, ?_⟩, by rw [setCells_size]; exact hg⟩
        · by_cases hjl : j < l.length
          · rw [World.cell?_setCells_out g _ _ _ _ (fun _ _ => .inl hjl), hc j hjl, List.getElem_append_left hjl]
          · obtain ⟨d, rfl⟩ : ∃ d, j = l.length + d := ⟨j - l.length, by omega⟩
            have hd : d < m.length := by simp at hj; omega
            rw [World.cell?_setCells_in g _ _ _ (fun j hj => (hf _ (by rw [cellsU_len] at hj; omega)).1) d (by rw [cellsU_len]; exact hd)]
            simp [cellsU]
        · by_cases hin : l.length ≤ j ∧ j < l.length + m.length
          · obtain ⟨d, rfl⟩ : ∃ d, j = l.length + d := ⟨j - l.length, by omega⟩
            rw [World.cell?_setCells_in g _ _ _ (fun j hj => (hf _ (by rw [cellsU_len] at hj; omega)).1) d (by rw [cellsU_len]; omega)]
            rfl
          · rw [World.cell?_setCells_out g _ _ _ _ (fun _ _ => by rw [cellsU_len]; show j < _ ∨ _ ≤ j; omega)]
            exact (hf j hj).1
        · rw [World.frozen?_setCells]
          exact (hf j hj).2
      · have hold : (Builtin.firstCells i0.size l.length (.slice (some ⟨g, 0, none⟩) l.length cap)).run Try.prog w.drew = .ok (cellsU l).toArray w.drew := by
          rw [hz1]
          refine run_firstCells_some w.drew 1 l.length ⟨g, 0, none⟩ l.length cap (cellsU l) (by rw [cellsU_len, Nat.mul_one]) ?_
          intro j x hx
          obtain ⟨hj, rfl⟩ := cellsU_at hx
          rw [Addr.add_lit, Nat.zero_add]
          exact hc j hj
        have hr := fun ty => run_append_grow_src (P := Try.prog) w 22 22 ty 5 i0 (.int .u8 0) Try.underlying22 hi hz0 (some ⟨g, 0, none⟩) l.length cap (cellsU l) hold u m.length (cellsU m) S (by omega) (by omega)
          (growslice_fits (by omega) (by rw [hz2]; omega))
        have hge := grownCap_ge w (l.length + m.length) cap 5
        obtain ⟨k, hk⟩ : ∃ k, grownCap w (l.length + m.length) cap 5 = (l ++ m).length + k := ⟨grownCap w (l.length + m.length) cap 5 - (l ++ m).length, by rw [List.length_append]; omega⟩
        obtain ⟨h1, h2⟩ := new_row w (l ++ m) k (Value.ownBlock (.slice (some ⟨g, 0, none⟩) l.length cap))
        refine ⟨_, _, fun ty => ?_, h1, h2, .inr rfl⟩
        have e : cellsU (l ++ m) = cellsU l ++ cellsU m := by simp [cellsU]
        rw [hr ty, hk, e, List.length_append, Nat.add_sub_cancel_left]

end Go.Proofs.Qxb6617117a
