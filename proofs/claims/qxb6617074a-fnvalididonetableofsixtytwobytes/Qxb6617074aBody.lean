import Derived.Test.Qxb6617074aLeaf
import Derived.Deep.LoopGhost
import Derived.Deep.RegionWith
import Derived.Deep.DeepCutAuto
import Derived.Deep.DeepFit
namespace Go.Proofs.Qxb6617074a
open Go.RowKit
def accCells : Array Value := Array.replicate 2048 (.bool false)
theorem zeroAcc (w : World) : (zeroValue 26).run Try.prog w = .ok (.agg accCells) w := by kernel_rfl

theorem walk_long (s : ByteArray) (w : World) (h : 1048576 < s.size) (h2 : s.size ≤ maxLen) :
    Calls Try.prog 3 #[.string s] w fun e w' => e = .returned (.bool true) ∧ Below w.heap.size w w' := by
  unfold maxLen at h2
  go_enter Try.func3, Try.ntmps3
  go_wp2_with (go_at_call 4; refine (zb_no _ _ h h2).mono ?_; rintro e w' ⟨rfl, rfl⟩)
  go_ret
  exact ⟨rfl, Below.refl _ _⟩

/-- the block b holds the bytes l -/
def HoldsB (w : World) (b : Nat) (l : List UInt8) : Prop := (∀ j (h : j < l.length), w.cell? ⟨b, j, none⟩ = some (.int .u8 (l[j].toNat : Int))) ∧ ∀ j, w.frozen? ⟨b, j, none⟩ = false

/-- what the first loop keeps -/
def Base1 (w wr : World) (k : Nat) : Prop := ∃ l : List UInt8, l.length = 8 ∧ (∀ j (h : j < l.length), j < k → 97 ≤ l[j].toNat ∧ l[j].toNat ≤ 122) ∧ HoldsB wr w.heap.size l ∧ Below w.heap.size w wr ∧ wr.heap.size = w.heap.size + 1

theorem base_start {w w1 : World} (h : w.alloc (Obj.cells #[Value.int IntKind.u8 0, Value.int IntKind.u8 0, Value.int IntKind.u8 0, Value.int IntKind.u8 0,
      Value.int IntKind.u8 0, Value.int IntKind.u8 0, Value.int IntKind.u8 0, Value.int IntKind.u8 0] 23) = w1) : HoldsB w1 w.heap.size [0, 0, 0, 0, 0, 0, 0, 0] ∧ Below w.heap.size w w1 ∧ w1.heap.size = w.heap.size + 1 := by
  subst h
  refine ⟨⟨?_, ?_⟩, (Below.refl _ _).alloc (Nat.le_refl _) _, by simp⟩
  · intro j hj
    rw [World.cell?_alloc_mark]
    match j, hj with
    | 0, _ | 1, _ | 2, _ | 3, _ | 4, _ | 5, _ | 6, _ | 7, _ => rfl
  · intro j
    simp

theorem u8_of (v : Int) (h0 : 0 ≤ v) (h1 : v ≤ 255) : ∃ u : UInt8, (u.toNat : Int) = v := ⟨v.toNat.toUInt8, by simp; omega⟩

theorem HoldsB.set {w : World} {b : Nat} {l : List UInt8} (h : HoldsB w b l) (k : Nat) (hk : k < l.length) (u : UInt8) (v : Int) (hv : (u.toNat : Int) = v) : HoldsB (w.setCell ⟨b, k, none⟩ (.int .u8 v)) b (l.set k u) := by
  subst hv
  refine ⟨fun j hj => ?_, fun j => by rw [World.frozen?_setCell]; exact h.2 j⟩
  have hj' : j < l.length := by simpa using hj
  by_cases e : k = j
  · subst e
    rw [World.cell?_setCell_same _ _ _ (h.1 k hk), List.getElem_set_self]
  · have := h.1 j hj'
    rw [List.getElem_set_ne e, World.cell?_setCell_other _ _ _ _ (by intro h; injection h; omega)]
    exact this

theorem base_step {w wr : World} {k : Nat} {l : List UInt8} (hl : l.length = 8) (hk : k < 8) (hlow : ∀ j (h : j < l.length), j < k → 97 ≤ l[j].toNat ∧ l[j].toNat ≤ 122) (HB : HoldsB wr w.heap.size l) (hb : Below w.heap.size w wr)
    (hs : wr.heap.size = w.heap.size + 1) (v : Int) (h0 : 97 ≤ v) (h1 : v ≤ 122) : Base1 w (wr.setCell ⟨w.heap.size, k, none⟩ (.int .u8 v)) (k + 1) := by
  obtain ⟨u, hu⟩ := u8_of v (by omega) (by omega)
  refine ⟨l.set k u, by simpa using hl, fun j hj hjk => ?_, HB.set k (by omega) u v hu, hb.setCell (Nat.le_refl _) _, by simpa [World.setCell] using hs⟩
  by_cases e : k = j
  · subst e
    rw [List.getElem_set_self]
    omega
  · rw [List.getElem_set_ne e]
    exact hlow j (by simpa using hj) (by omega)

theorem addr_add (b o j : Nat) : (⟨b, o, none⟩ : Addr).add j = ⟨b, o + j, none⟩ := by
  unfold Addr.add
  split
  · rename_i h; simp_all
  · rfl

/-- the block b holds the table f -/
def HoldsT (w : World) (b : Nat) (f : Nat → Bool) : Prop := (∀ o, o < 2048 → w.cell? ⟨b, o, none⟩ = some (.bool (f o))) ∧ ∀ o, w.frozen? ⟨b, o, none⟩ = false

/-- what the two loops that fill the table keep -/
def AccR (w wr : World) (A : Nat) (l : List UInt8) (p : Nat) : Prop :=
  HoldsB wr w.heap.size l ∧ (∃ f, HoldsT wr A f ∧ ∀ o, o < p → f o = alnumB ((o % 256 : Nat) : Int)) ∧ Below w.heap.size w wr ∧ w.heap.size < A ∧ A < wr.heap.size

theorem okID_low (l : List UInt8) (hl : l.length = 8) (h : ∀ j (h : j < l.length), 97 ≤ l[j].toNat ∧ l[j].toNat ≤ 122) : okID ⟨l.toArray⟩ = true := by
  have h1 : (⟨l.toArray⟩ : ByteArray).size = 8 := by rw [← hl]; rfl
  have h2 : l.all (fun b => alnumB b.toNat) = true := by
    rw [List.all_eq_true]
    intro x hx
    obtain ⟨i, hi, rfl⟩ := List.mem_iff_getElem.1 hx
    have := h i hi
    unfold alnumB
    simp
    omega
  simp only [okID, h1]
  simpa using h2

theorem HoldsB.below {w w' : World} {b B : Nat} {l : List UInt8} (h : HoldsB w b l) (hb : Below B w w') (hB : b < B) : HoldsB w' b l :=
  ⟨fun j hj => (hb.cell (p := ⟨b, j, none⟩) hB).trans (h.1 j hj), fun j => (hb.frozen (p := ⟨b, j, none⟩) hB).trans (h.2 j)⟩

theorem HoldsT.below {w w' : World} {b B : Nat} {f : Nat → Bool} (h : HoldsT w b f) (hb : Below B w w') (hB : b < B) : HoldsT w' b f :=
  ⟨fun j hj => (hb.cell (p := ⟨b, j, none⟩) hB).trans (h.1 j hj), fun j => (hb.frozen (p := ⟨b, j, none⟩) hB).trans (h.2 j)⟩

theorem acc_start {w wr w2 w3 : World} {l : List UInt8} (HB : HoldsB wr w.heap.size l) (hb : Below w.heap.size w wr) (hs : wr.heap.size = w.heap.size + 1) (hb2 : Below wr.heap.size wr w2) (hw3 : w2.alloc (Obj.cells accCells 26) = w3) :
    AccR w w3 w2.heap.size l 0 := by
  subst hw3
  have b3 : Below w2.heap.size w2 (w2.alloc (Obj.cells accCells 26)) := (Below.refl _ _).alloc (Nat.le_refl _) _
  have z2 := hb2.size
  refine ⟨(HB.below hb2 (by omega)).below b3 (by omega), ⟨fun _ => false, ⟨?_, ?_⟩, fun o h => by omega⟩, (hb.trans (hb2.mono (by omega))).trans (b3.mono (by omega)), by omega, by simp⟩
  · intro o ho
    rw [World.cell?_alloc_mark]
    simp [accCells, ho]
  · intro o
    simp

theorem list8 (l : List UInt8) (hl : l.length = 8) : ∃ x0 x1 x2 x3 x4 x5 x6 x7 : UInt8, l = [x0, x1, x2, x3, x4, x5, x6, x7] := by
  match l, hl with
  | [x0, x1, x2, x3, x4, x5, x6, x7], _ => exact ⟨_, _, _, _, _, _, _, _, rfl⟩

theorem eight {w : World} {b : Nat} {l : List UInt8} {x0 x1 x2 x3 x4 x5 x6 x7 : UInt8} (hl : l = [x0, x1, x2, x3, x4, x5, x6, x7]) (h : HoldsB w b l) :
    w.cell? ⟨b, 0, none⟩ = some (.int .u8 x0.toNat) ∧ w.cell? ⟨b, 1, none⟩ = some (.int .u8 x1.toNat) ∧ w.cell? ⟨b, 2, none⟩ = some (.int .u8 x2.toNat) ∧ w.cell? ⟨b, 3, none⟩ = some (.int .u8 x3.toNat) ∧
    w.cell? ⟨b, 4, none⟩ = some (.int .u8 x4.toNat) ∧ w.cell? ⟨b, 5, none⟩ = some (.int .u8 x5.toNat) ∧ w.cell? ⟨b, 6, none⟩ = some (.int .u8 x6.toNat) ∧ w.cell? ⟨b, 7, none⟩ = some (.int .u8 x7.toNat) := by
  subst hl
  exact ⟨h.1 0 (by simp), h.1 1 (by simp), h.1 2 (by simp), h.1 3 (by simp), h.1 4 (by simp), h.1 5 (by simp), h.1 6 (by simp), h.1 7 (by simp)⟩

theorem probe_start {w w4 : World} {l : List UInt8} {x0 x1 x2 x3 x4 x5 x6 x7 : UInt8} (hL : l = [x0, x1, x2, x3, x4, x5, x6, x7]) {k m : Nat} (hm : m < 256)
    (h : w.alloc (Obj.cells ([Value.int IntKind.u8 ↑x0.toNat, Value.int IntKind.u8 ↑x1.toNat, Value.int IntKind.u8 ↑x2.toNat,
            Value.int IntKind.u8 ↑x3.toNat, Value.int IntKind.u8 ↑x4.toNat, Value.int IntKind.u8 ↑x5.toNat,
            Value.int IntKind.u8 ↑x6.toNat, Value.int IntKind.u8 ↑x7.toNat].set k (Value.int IntKind.u8 ↑m)).toArray 23) = w4) :
    HoldsB w4 w.heap.size (l.set k m.toUInt8) ∧ Below w.heap.size w w4 ∧ w4.heap.size = w.heap.size + 1 := by
  subst h
  refine ⟨⟨?_, ?_⟩, (Below.refl _ _).alloc (Nat.le_refl _) _, by simp⟩
  · intro j hj
    rw [World.cell?_alloc_mark]
    have e : [Value.int IntKind.u8 ↑x0.toNat, Value.int IntKind.u8 ↑x1.toNat, Value.int IntKind.u8 ↑x2.toNat,
            Value.int IntKind.u8 ↑x3.toNat, Value.int IntKind.u8 ↑x4.toNat, Value.int IntKind.u8 ↑x5.toNat,
            Value.int IntKind.u8 ↑x6.toNat, Value.int IntKind.u8 ↑x7.toNat].set k (Value.int IntKind.u8 ↑m) = (l.set k m.toUInt8).map (fun b => Value.int .u8 b.toNat) := by
      rw [List.map_set, hL]
      have : m % 256 = m := Nat.mod_eq_of_lt hm
      simp [this]
    rw [e, List.getElem?_toArray, List.getElem?_map, List.getElem?_eq_getElem hj]
    rfl
  · intro j
    simp

theorem okID_probe (l : List UInt8) (hl : l.length = 8) (h : ∀ j (h : j < l.length), j < 8 → 97 ≤ l[j].toNat ∧ l[j].toNat ≤ 122) (k m : Nat) (hk : k < 8) (hm : m < 256) : okID ⟨(l.set k m.toUInt8).toArray⟩ = alnumB m := by
  have h1 : (⟨(l.set k m.toUInt8).toArray⟩ : ByteArray).size = 8 := by show (l.set k m.toUInt8).toArray.size = 8; simpa using hl
  have e : ((m.toUInt8).toNat : Int) = m := by simp; omega
  have h2 : (l.set k m.toUInt8).all (fun b => alnumB b.toNat) = alnumB m := by
    cases hA : alnumB m with
    | true =>
      rw [List.all_eq_true]
      intro x hx
      obtain ⟨i, hi, rfl⟩ := List.mem_iff_getElem.1 hx
      by_cases ek : k = i
      · subst ek
        rw [List.getElem_set_self, e]
        exact hA
      · rw [List.getElem_set_ne ek]
        have := h i (by simpa using hi) (by simp at hi; omega)
        unfold alnumB
        simp
        omega
    | false =>
      rw [List.all_eq_false]
      refine ⟨m.toUInt8, ?_, by rw [e, hA]; decide⟩
      exact List.mem_iff_getElem.2 ⟨k, by simp; omega, by simp⟩
  simp only [okID, h1]
  simpa using h2

theorem acc_cell {wr w4 w5 : World} {A k m : Nat} {f : Nat → Bool} (hk : k < 8) (hm : m < 256) (HT : HoldsT wr A f) (hb4 : Below wr.heap.size wr w4) (hA : A < wr.heap.size) (hs4 : w4.heap.size = wr.heap.size + 1)
    (hb5 : Below w4.heap.size w4.drew w5) : w5.cell? ⟨A, k * 256 + m, none⟩ = some (.bool (f (k * 256 + m))) ∧ w5.frozen? ⟨A, k * 256 + m, none⟩ = false := by
  have hb5' : Below w4.heap.size w4 w5 := ⟨hb5.os, hb5.tape, hb5.output, hb5.size, hb5.block⟩
  have H := (HT.below hb4 hA).below hb5' (by omega)
  exact ⟨H.1 _ (by omega), H.2 _⟩

theorem HoldsT.set {w : World} {b : Nat} {f : Nat → Bool} (h : HoldsT w b f) (k : Nat) (v : Bool) : HoldsT (w.setCell ⟨b, k, none⟩ (.bool v)) b (fun o => if o = k then v else f o) := by
  refine ⟨fun j hj => ?_, fun j => by rw [World.frozen?_setCell]; exact h.2 j⟩
  by_cases e : k = j
  · subst e
    rw [World.cell?_setCell_same _ _ _ (h.1 k hj)]
    simp
  · rw [World.cell?_setCell_other _ _ _ _ (by intro h; injection h; omega), h.1 j hj]
    simp [show ¬ j = k by omega]

theorem HoldsB.setOther {w : World} {b : Nat} {l : List UInt8} (h : HoldsB w b l) (c k : Nat) (v : Value) (hc : b < c) : HoldsB (w.setCell ⟨c, k, none⟩ v) b l := by
  refine ⟨fun j hj => ?_, fun j => by rw [World.frozen?_setCell]; exact h.2 j⟩
  rw [World.cell?_setCell_other _ _ _ _ (by intro h; injection h; omega)]
  exact h.1 j hj

theorem acc_step {w wr w4 w5 : World} {A k m : Nat} {l : List UInt8} {f : Nat → Bool} (hm : m < 256) (HB : HoldsB wr w.heap.size l) (HT : HoldsT wr A f) (hf : ∀ o, o < k * 256 + m → f o = alnumB ((o % 256 : Nat) : Int))
    (hb : Below w.heap.size w wr) (hlA : w.heap.size < A) (hA : A < wr.heap.size) (hb4 : Below wr.heap.size wr w4) (hs4 : w4.heap.size = wr.heap.size + 1) (hb5 : Below w4.heap.size w4.drew w5) :
    AccR w (w5.setCell ⟨A, k * 256 + m, none⟩ (.bool (alnumB m))) A l (k * 256 + (m + 1)) := by
  have hb5' : Below w4.heap.size w4 w5 := ⟨hb5.os, hb5.tape, hb5.output, hb5.size, hb5.block⟩
  have z5 := hb5'.size
  have T5 := (HT.below hb4 hA).below hb5' (by omega)
  have B5 := (HB.below hb4 (by omega)).below hb5' (by omega)
  refine ⟨B5.setOther _ _ _ hlA, ⟨_, T5.set _ _, fun o ho => ?_⟩, (((hb.trans (hb4.mono (by omega))).trans (hb5'.mono (by omega))).setCell (by show w.heap.size ≤ A; omega) _), hlA, by simp [World.setCell]; omega⟩
  by_cases e : o = k * 256 + m
  · rw [if_pos e, e]
    congr 1
    omega
  · rw [if_neg e]
    exact hf o (by omega)

/-- the table is filled -/
def TabR (w wr : World) (A : Nat) : Prop := (∀ o, o < 2048 → wr.cell? ⟨A, o, none⟩ = some (.bool (alnumB ((o % 256 : Nat) : Int)))) ∧ Below w.heap.size w wr

theorem tab_of {w wr : World} {A : Nat} {l : List UInt8} (R : AccR w wr A l (8 * 256)) : TabR w wr A := by
  obtain ⟨_, ⟨f, HT, hf⟩, hb, _, _⟩ := R
  exact ⟨fun o ho => by rw [HT.1 o ho, hf o (by omega)], hb⟩

theorem TabR.cell {w wr : World} {A : Nat} (T : TabR w wr A) (j m : Nat) (hj : j < 8) (hm : m < 256) : wr.cell? ⟨A, j * 256 + m, none⟩ = some (.bool (alnumB m)) := by
  rw [T.1 (j * 256 + m) (by omega), show (j * 256 + m) % 256 = m by omega]

theorem TabR.cell0 {w wr : World} {A : Nat} (T : TabR w wr A) (m : Nat) (hm : m < 256) : wr.cell? ⟨A, m, none⟩ = some (.bool (alnumB m)) := by
  rw [T.1 m (by omega), show m % 256 = m by omega]

/-- the first j bytes of s are letters or digits -/
def allB (s : ByteArray) (j : Nat) : Bool := (s.data.toList.take j).all (fun b => alnumB b.toNat)
theorem allB_snoc (s : ByteArray) (j : Nat) (h : j < s.size) : allB s (j + 1) = (allB s j && alnumB s[j].toNat) := by
  unfold allB
  have hl : j < s.data.toList.length := by simpa using h
  rw [List.take_succ_eq_append_getElem hl, List.all_append]
  simp
  rfl
theorem allB_ok (s : ByteArray) (j : Nat) (h8 : s.size = 8) (hj : 8 ≤ j) : allB s j = okID s := by
  unfold allB okID
  rw [List.take_of_length_le (by simp; omega)]
  simp [h8]

theorem TabR.drewN {w wr : World} {A : Nat} (T : TabR w wr A) (n : Nat) : TabR w (wr.drewN n) A := ⟨T.1, ⟨T.2.os, T.2.tape, T.2.output, T.2.size, T.2.block⟩⟩

/-- how many of the bytes below m are letters or digits -/
def cnt (m : Nat) : Nat := ((List.range m).filter (fun c : Nat => alnumB (c : Int))).length
theorem cnt_le (m : Nat) : cnt m ≤ m := by
  unfold cnt
  exact Nat.le_trans (List.length_filter_le _ _) (by simp)
theorem cnt_yes (m : Nat) (h : alnumB (m : Int) = true) : cnt (m + 1) = cnt m + 1 := by
  unfold cnt
  rw [List.range_succ, List.filter_append]
  simp [h]
theorem cnt_no (m : Nat) (h : alnumB (m : Int) = false) : cnt (m + 1) = cnt m := by
  unfold cnt
  rw [List.range_succ, List.filter_append]
  simp [h]
theorem cnt_all : cnt 256 = 62 := by decide +kernel

set_option maxHeartbeats 1000000 in
set_option maxRecDepth 100000 in
theorem walk_main (s : ByteArray) (w : World) (h : s.size ≤ 1048576) :
    Calls Try.prog 3 #[.string s] w fun e w' => e = .returned (.bool true) ∧ Below w.heap.size w w' := by
  have hz := zeroAcc
  go_enter Try.func3, Try.ntmps3
  go_wp2_with (go_at_call 4; refine (zb_yes _ _ h).mono ?_; rintro e w' ⟨rfl, rfl⟩)
  generalize hw1 : World.alloc _ _ = w1
  obtain ⟨HB, hb1, hsz⟩ := base_start hw1
  clear hw1
  go_loopw [4] (fun i wr => ∃ k : Nat, k ≤ 8 ∧ i = .int .i64 k ∧ Base1 w' wr k) (fun i _ => 8 - (intOf i).toNat)
  case atStart => exact ⟨0, by omega, rfl, _, rfl, by omega, HB, hb1, hsz⟩
  case round =>
    obtain ⟨k, hk, rfl, l, hl, hlow, HB, hb, hs⟩ := hrel
    by_cases hlt : k < 8
    · have hc := HB.1 k (by omega)
      have hf := HB.2 k
      by_cases hks : k < s.size
      · have hx := s[k].toNat_lt
        go_wp2
        go_roundw
        case rel => exact ⟨k + 1, by omega, by go_num, base_step hl hlt hlow HB hb hs _ (by omega) (by omega)⟩
        case measure => simp [intOf]; omega
      · go_wp2
        go_roundw
        case rel => exact ⟨k + 1, by omega, by go_num, base_step hl hlt hlow HB hb hs _ (by omega) (by omega)⟩
        case measure => simp [intOf]; omega
    · have hcv := run_convert_bytes_back (P := Try.prog) wr 24 9 5 ⟨w'.heap.size, 0, none⟩ 8 l Try.underlying24 Try.underlying5 Try.underlying9 (by intro j hj; rw [addr_add]; simpa using HB.1 j hj)
      rw [hl] at hcv
      have hlow8 : ∀ j (h : j < l.length), j < 8 → 97 ≤ l[j].toNat ∧ l[j].toNat ≤ 122 := fun j hj _ => hlow j hj (by omega)
      have hok : okID ⟨l.toArray⟩ = true := okID_low l hl fun j hj => hlow j hj (by omega)
      go_wp2_with (go_at_call 5; refine (zzvalid_any _ _).mono ?_; rintro e w2 ⟨rfl, hb2⟩)
      generalize hw3 : World.alloc _ _ = w3
      have R3 : AccR w' w3 w2.heap.size l 0 := acc_start HB hb hs hb2 hw3
      clear hw3
      go_loopg [6] 8 (fun g i wr => ∃ k : Nat, g + k = 8 ∧ i = .int .i64 k ∧ AccR w' wr w2.heap.size l (k * 256))
      case atStart => exact ⟨0, rfl, rfl, R3⟩
      case round =>
        obtain ⟨k, hk, rfl, R⟩ := hrel
        by_cases hlt : k < 8
        · have hki : (k : Int) < 8 := by omega
          go_wp2
          go_loopg [7] 256 (fun g b wr => ∃ m : Nat, g + m = 256 ∧ b = .int .i64 m ∧ AccR w' wr w2.heap.size l (k * 256 + m))
          case atStart => exact ⟨0, rfl, rfl, R⟩
          case round =>
            obtain ⟨m, hm, rfl, R⟩ := hrel
            by_cases hlm : m < 256
            · obtain ⟨x0, x1, x2, x3, x4, x5, x6, x7, hL⟩ := list8 l hl
              obtain ⟨c0, c1, c2, c3, c4, c5, c6, c7⟩ := eight hL R.1
              have HL : Hid (l = [x0, x1, x2, x3, x4, x5, x6, x7]) := hL
              clear hL
              go_wp2
              generalize hw4 : World.alloc _ _ = w4
              obtain ⟨HP, hb4, hs4⟩ := probe_start HL.out hlm hw4
              clear hw4 c0 c1 c2 c3 c4 c5 c6 c7
              have hcv := run_convert_bytes_back (P := Try.prog) w4.drew 24 9 5 ⟨wr.heap.size, 0, none⟩ 8 (l.set k m.toUInt8) Try.underlying24 Try.underlying5 Try.underlying9 (by intro j hj; rw [addr_add]; simpa using HP.1 j hj)
              rw [List.length_set, hl] at hcv
              obtain ⟨HBr, ⟨f, HT, hf⟩, hbr, hlA, hAr⟩ := R
              have ok4 : okID ⟨(l.set k m.toUInt8).toArray⟩ = alnumB m := okID_probe l hl hlow8 k m hlt hlm
              go_region_with (go_at_call 5; refine (zzvalid_any _ _).mono ?_; rintro e w5 ⟨rfl, hb5⟩; obtain ⟨hc5, hf5⟩ := acc_cell hlt hlm HT hb4 hAr hs4 hb5)
              go_wp2
              go_roundg (255 - m)
              case measure => omega
              case rel => exact ⟨m + 1, by omega, by go_num, acc_step hlm HBr HT hf hbr hlA hAr hb4 hs4 hb5⟩
            · have em : m = 256 := by omega
              go_wp2
              go_roundg (7 - k)
              case measure => omega
              case rel => exact ⟨k + 1, by omega, by go_num, by rw [show (k + 1) * 256 = k * 256 + m by omega]; exact R⟩
        · have TR := tab_of (by rw [show k = 8 by omega] at R; exact R)
          clear R hok hlow hlow8 hcv HB hb hs hb2
          go_wp2
          go_loopg [9, 10] 256 (fun g c b wr => ∃ m : Nat, g + m = 256 ∧ b = .int .i64 m ∧ c = .int .i64 (cnt m) ∧ TabR w' wr w2.heap.size)
          case atStart => exact ⟨0, rfl, rfl, rfl, TR⟩
          case round =>
            obtain ⟨m, hm, rfl, rfl, TR⟩ := hrel
            have hcm := cnt_le m
            by_cases hlm : m < 256
            · have hmi : (m : Int) < 256 := by omega
              go_wp2
              go_loopg [11] 7 (fun g i wr => ∃ j : Nat, 1 ≤ j ∧ g + j = 8 ∧ i = .int .i64 j ∧ TabR w' wr w2.heap.size)
              case atStart => exact ⟨1, by omega, rfl, rfl, TR⟩
              case round =>
                obtain ⟨j, hj1, hj, rfl, TR⟩ := hrel
                have hc0 := TR.cell0 m hlm
                by_cases hlj : j < 8
                · have hc1 := TR.cell j m hlj hlm
                  go_wp2
                  go_quiet (fail)
                  go_wp2
                  go_roundg (7 - j)
                  case measure => omega
                  case rel => exact ⟨j + 1, by omega, by omega, by go_num, TR.drewN _⟩
                · cases hA : alnumB (m : Int) with
                  | true =>
                    rw [hA] at hc0
                    have hcs := cnt_yes m hA
                    have HC : Hid (cnt (m + 1) = cnt m + 1) := hcs
                    clear hcs
                    go_wp2
                    go_roundg (255 - m)
                    case measure => omega
                    case rel => exact ⟨m + 1, by omega, by go_num, by rw [HC.out]; go_num, TR⟩
                  | false =>
                    rw [hA] at hc0
                    have hcs := cnt_no m hA
                    have HC : Hid (cnt (m + 1) = cnt m) := hcs
                    clear hcs
                    go_wp2_with (go_at_call 6; refine (alnum_any _ _).mono ?_; rintro e w6 ⟨rfl, hw6⟩)
                    go_roundg (255 - m)
                    case measure => omega
                    case rel => exact ⟨m + 1, by omega, by go_num, by rw [HC.out], TR⟩
            · have em : m = 256 := by omega
              subst em
              rw [cnt_all]
              by_cases h8 : s.size = 8
              · go_wp2
                go_loopg [12, 13] 8 (fun g t i wr => ∃ j : Nat, g + j = 8 ∧ i = .int .i64 j ∧ t = .bool (allB s j) ∧ TabR w' wr w2.heap.size)
                case atStart => exact ⟨0, rfl, rfl, rfl, TR⟩
                case round =>
                  obtain ⟨j, hj, rfl, rfl, TR⟩ := hrel
                  by_cases hlj : j < 8
                  · have hx := s[j].toNat_lt
                    have hc1 := TR.cell j s[j].toNat hlj (by omega)
                    have HS : Hid (allB s (j + 1) = (allB s j && alnumB s[j].toNat)) := allB_snoc s j (by omega)
                    cases hA : alnumB ((s[j].toNat : Nat) : Int) with
                    | true =>
                      rw [hA] at hc1
                      go_wp2
                      go_quiet (fail)
                      go_wp2
                      go_roundg (7 - j)
                      case measure => omega
                      case rel => exact ⟨j + 1, by omega, by go_num, by rw [HS.out, hA, Bool.and_true], TR.drewN _⟩
                    | false =>
                      rw [hA] at hc1
                      go_wp2
                      go_quiet (fail)
                      go_wp2
                      go_roundg (7 - j)
                      case measure => omega
                      case rel => exact ⟨j + 1, by omega, by go_num, by rw [HS.out, hA, Bool.and_false], TR.drewN _⟩
                  · have ej : allB s j = okID s := allB_ok s j h8 (by omega)
                    go_wp2_with (go_at_call 5; refine (zzvalid_any _ _).mono ?_; rintro e w5 ⟨rfl, hb5⟩)
                    go_ret
                    exact ⟨ret_bool (by simp), TR.2.trans (hb5.mono TR.2.size)⟩
              · have hno : okID s = false := by simp [okID, h8]
                go_wp2_with (go_at_call 5; refine (zzvalid_any _ _).mono ?_; rintro e w5 ⟨rfl, hb5⟩)
                go_ret
                exact ⟨ret_bool (by simp), TR.2.trans (hb5.mono TR.2.size)⟩
end Go.Proofs.Qxb6617074a
