import Derived.Test.Qxb6617117aMem
namespace Go.Proofs.Qxb6617117a
open Go.RowKit Cm

theorem ret_tup {v : Value} {a b : Bool} (h : a = b) : Ending.returned (.tuple #[v, .bool a]) = .returned (.tuple #[v, .bool b]) := by rw [h]

theorem own_of_row {w : World} {B : Nat} {v : Value} {l : List UInt8} (h : w.ownsRow B 5 1 v l.length (cellsU l)) : Own w v l := by
  rcases h.2 with ⟨rfl, hn⟩ | ⟨g, cap, cur, rfl, hB, hg, hle, _, hcs, _⟩
  · exact .inl ⟨rfl, List.eq_nil_of_length_eq_zero hn⟩
  · have hc := h.cells (g := g) rfl
    refine .inr ⟨g, cap, rfl, hle, fun j hj => ?_, fun j hj => ⟨?_, frozen_of_row w g j cur 5 hg⟩, (Array.getElem?_eq_some_iff.1 hg).1⟩
    · have := hc j (.int .u8 l[j].toNat) (by simp [cellsU, hj])
      rwa [Addr.add_lit, Nat.zero_add] at this
    · rw [cell_of_row w g j cur 5 (0, 0) hg, Array.getElem?_eq_getElem (by omega)]
      rfl

theorem zeros_made (n : Nat) : (madeCells (Value.int .u8 0).cells (n * 1)).toList = List.replicate n (.int .u8 0) := by
  rw [Nat.mul_one]
  exact toList_madeCells_one _ n

theorem clone_step (l : List UInt8) (k : Nat) (hk : k < l.length) :
    (cellsU (l.take k) ++ List.replicate (l.length - k) (Value.int .u8 0)).set k (.int .u8 l[k].toNat) = cellsU (l.take (k + 1)) ++ List.replicate (l.length - (k + 1)) (.int .u8 0) := by
  have h1 : (cellsU (l.take k)).length = k := by rw [cellsU_len, List.length_take]; omega
  rw [List.set_append_right _ _ (by omega), h1, Nat.sub_self, show l.length - k = (l.length - (k + 1)) + 1 by omega, List.replicate_succ, List.set_cons_zero]
  have h2 : cellsU (l.take (k + 1)) = cellsU (l.take k) ++ [.int .u8 l[k].toNat] := by
    rw [List.take_succ_eq_append_getElem hk]
    unfold cellsU
    rw [List.map_append]
    rfl
  rw [h2, List.append_assoc]
  rfl

set_option maxHeartbeats 400000 in
theorem clone_any (v : Value) (l : List UInt8) (w : World) (hs : SL w v l) (hn : l.length ≤ 1048576) :
    Calls Try.prog 7 #[v] w fun e w' => ∃ v', e = .returned v' ∧ Own w' v' l ∧ (∀ k, v'.ownBlock = some k → w.heap.size ≤ k) ∧ Below w.heap.size w w' := by
  obtain ⟨a, c, rfl, hle, hr, hnil⟩ := hs
  have q22 : ∀ (w : World) (a : Option Addr) (n c n' c' : Nat), (binOp .eql 22 (.slice a n c) (.slice none n' c')).run Try.prog w = .ok (.bool a.isNone) w := fun w a n c n' c' => Lib.run_eql_slice_nil w _ _ a n c n' c' Try.underlying22
  cases a with
  | none =>
    have hc := hnil rfl
    have hl : l = [] := List.eq_nil_of_length_eq_zero (by omega)
    subst hl
    clear hnil hc hr hle hn
    go_enter Try.func7, Try.ntmps7
    go_wp2
    go_ret
    exact ⟨_, rfl, .inl ⟨rfl, rfl⟩, by simp [Value.ownBlock], Below.refl _ _⟩
  | some x =>
    obtain ⟨i0, hi, hz0, hz1, hz2⟩ := info_parts info5
    obtain ⟨w1, hrun, hown, hgrow⟩ := run_make_full (P := Try.prog) w w.heap.size 22 5 i0 (.int .u8 0) 1 Try.underlying22 hi hz0 hz1 .i64 .i64 l.length (by rw [hz2]; omega) (by unfold maxLen; omega) (Nat.le_refl _)
    rw [zeros_made] at hown
    have hb1 : Below w.heap.size w w1 := (Below.refl _ _).grown hgrow (Nat.le_refl _) (by simp)
    go_enter Try.func7, Try.ntmps7
    go_wp2
    go_loopg [4] l.length (fun g i wr => ∃ k : Nat, g + k = l.length ∧ i = .int .i64 k ∧ wr.ownsRow w.heap.size 5 1 (.slice (some ⟨w.heap.size, 0, none⟩) l.length l.length) l.length (cellsU (l.take k) ++ List.replicate (l.length - k) (.int .u8 0)) ∧ Below w.heap.size w wr)
    case atStart => exact ⟨0, rfl, rfl, hown, hb1⟩
    case round =>
      obtain ⟨k, hk, rfl, hown, hb⟩ := hrel
      by_cases hlt : k < l.length
      · obtain ⟨b, o, hx, hcell⟩ := hr k hlt
        injection hx with hx
        subst hx
        have hcr := (hb.cell (p := ⟨b, o + k, none⟩) (World.block_lt_of_cell? w _ hcell)).trans hcell
        have hcx := hown.cellAt k (by omega)
        have hfx := hown.frozenAt k
        obtain ⟨u, hu⟩ : ∃ u, (cellsU (l.take k) ++ List.replicate (l.length - k) (Value.int .u8 0))[k]? = some u := ⟨_, List.getElem?_eq_getElem (by simp [cellsU]; omega)⟩
        rw [hu] at hcx
        have hst := hown.stored k (.int .u8 l[k].toNat)
        rw [clone_step l k hlt] at hst
        have HS := hst
        clear hu hown
        go_wp2
        go_roundg (l.length - (k + 1))
        case measure => omega
        case rel => exact ⟨k + 1, by omega, by go_num, HS.1, hb.setCell (Nat.le_refl _) _⟩
      · go_wp2
        go_ret
        refine ⟨_, rfl, own_of_row (B := w.heap.size) ?_, by simp [Value.ownBlock], hb⟩
        have e : cellsU (l.take k) ++ List.replicate (l.length - k) (Value.int .u8 0) = cellsU l := by
          rw [List.take_of_length_le (by omega), Nat.sub_eq_zero_of_le (by omega)]
          simp
        rw [← e]
        exact hown

theorem below_drewN {B : Nat} {a w : World} (h : Below B a w) (n : Nat) : Below B a (w.drewN n) := ⟨h.os, h.tape, h.output, h.size, h.block⟩

set_option maxHeartbeats 400000 in
theorem same_any (v u : Value) (l : List UInt8) (w : World) (h1 : SL w v l) (h2 : SL w u l) (hn : l.length ≤ 16777216) :
    Calls Try.prog 11 #[v, u] w fun e w' => e = .returned (.bool true) ∧ ∃ n, w' = w.drewN n := by
  obtain ⟨a1, c1, rfl, _, hr1, _⟩ := h1
  obtain ⟨a2, c2, rfl, _, hr2, _⟩ := h2
  go_enter Try.func11, Try.ntmps11
  go_wp2
  go_loopg [5] l.length (fun g i wr => ∃ k : Nat, g + k = l.length ∧ i = .int .i64 k ∧ ∃ n, wr = w.drewN n)
  case atStart => exact ⟨0, rfl, rfl, 0, rfl⟩
  case round =>
    obtain ⟨k, hk, rfl, n, rfl⟩ := hrel
    by_cases hlt : k < l.length
    · obtain ⟨b1, o1, rfl, hc1⟩ := hr1 k hlt
      obtain ⟨b2, o2, rfl, hc2⟩ := hr2 k hlt
      go_wp2
      generalize hW : w.drewN n = w2
      have hc1' : w2.cell? ⟨b1, o1 + k, none⟩ = some (.int .u8 (l[k].toNat : Int)) := by rw [← hW]; exact hc1
      have hc2' : w2.cell? ⟨b2, o2 + k, none⟩ = some (.int .u8 (l[k].toNat : Int)) := by rw [← hW]; exact hc2
      have HW : Hid (w.drewN n = w2) := hW
      clear hW hc1 hc2
      go_quiet (fail)
      go_wp2
      go_roundg (l.length - (k + 1))
      case measure => omega
      case rel => exact ⟨k + 1, by omega, by go_num, _, by rw [← HW.out, World.drewN_drewN]⟩
    · go_wp2
      go_ret
      exact ⟨rfl, n, rfl⟩

/-- the block of u is another than v's -/
def Apart (w : World) (v u : Value) : Prop := ∀ k, k < w.heap.size → u.ownBlock = some k → v.ownBlock ≠ some k

theorem new_one (w : World) (c : UInt8) : SL (w.alloc (.cells #[.int .u8 (c.toNat : Int)] 5)) (.slice (some ⟨w.heap.size, 0, none⟩) 1 1) [c] := by
  refine ⟨_, 1, rfl, Nat.le_refl _, fun j hj => ⟨w.heap.size, 0, rfl, ?_⟩, fun h => by cases h⟩
  have : j = 0 := by simpa using hj
  subst this
  rw [World.cell?_alloc_mark]
  rfl

theorem grown_trans {a b c : World} {row : Option Nat} (h : a.grownBy b row) (k : b.grownBy c row) : a.grownBy c row :=
  ⟨k.os.trans h.os, k.tape.trans h.tape, k.output.trans h.output, Nat.le_trans h.size k.size, fun i hi hne => (k.block i (Nat.lt_of_lt_of_le hi h.size) hne).trans (h.block i hi hne)⟩

theorem grown_any {a b : World} (h : a.grownBy b none) (row : Option Nat) : a.grownBy b row := ⟨h.os, h.tape, h.output, h.size, fun i hi _ => h.block i hi (by simp)⟩

/-- what a loop that appends keeps: L gathered, onto v0 of the world w -/
def Gath (w wr : World) (v0 v : Value) (L : List UInt8) : Prop :=
  Own wr v L ∧ (∀ k, k < w.heap.size → v0.ownBlock ≠ some k → wr.heap[k]? = w.heap[k]?) ∧ wr.os = w.os ∧ wr.tape = w.tape ∧ wr.output = w.output ∧ w.heap.size ≤ wr.heap.size ∧
    (v.ownBlock = v0.ownBlock ∨ ∀ k, v.ownBlock = some k → w.heap.size ≤ k)

theorem Gath.start {w : World} {v : Value} {L : List UInt8} (h : Own w v L) : Gath w w v v L := ⟨h, fun _ _ _ => rfl, rfl, rfl, rfl, Nat.le_refl _, .inl rfl⟩

/-- what lies apart from v0 lies as it did -/
theorem Gath.other {w wr : World} {v0 v u : Value} {L m : List UInt8} (h : Gath w wr v0 v L) (hu : SL w u m) (ha : Apart w v0 u) : SL wr u m :=
  hu.kept fun k hk hb => h.2.1 k hk (ha k hk hb)

theorem Gath.below {w wr : World} {v0 v : Value} {L : List UInt8} (h : Gath w wr v0 v L) {B : Nat} (hB : B ≤ w.heap.size) (h0 : ∀ k, v0.ownBlock = some k → B ≤ k) : Below B w wr :=
  ⟨h.2.2.1, h.2.2.2.1, h.2.2.2.2.1, h.2.2.2.2.2.1, fun k hk => h.2.1 k (by omega) fun e => by have := h0 k e; omega⟩

/-- a step: blocks laid, then an append -/
theorem Gath.step {w wr w1 w2 : World} {v0 v v' : Value} {L L' : List UInt8} (h : Gath w wr v0 v L) (h1 : wr.grownBy w1 none) (hown : Own w2 v' L') (hg : w1.grownBy w2 v.ownBlock) (hv : v'.ownBlock = v.ownBlock ∨ v'.ownBlock = some w1.heap.size) :
    Gath w w2 v0 v' L' := by
  obtain ⟨_, hb, h2, h3, h4, h5, h6⟩ := h
  have z1 := h1.size
  refine ⟨hown, fun k hk hne => ?_, (hg.os.trans h1.os).trans h2, (hg.tape.trans h1.tape).trans h3, (hg.output.trans h1.output).trans h4, Nat.le_trans h5 (Nat.le_trans z1 hg.size), ?_⟩
  · have hkv : some k ≠ v.ownBlock := by
      intro e
      rcases h6 with h6 | h6
      · exact hne (by rw [← h6, ← e])
      · have := h6 k e.symm; omega
    rw [hg.block k (by omega) hkv, h1.block k (by omega) (by simp), hb k hk hne]
  · rcases hv with hv | hv
    · rw [hv]; exact h6
    · exact .inr fun k hk => by rw [hv] at hk; injection hk with hk; omega

set_option maxHeartbeats 400000 in
theorem appendBytes_any (v u : Value) (l m : List UInt8) (w : World) (ho : Own w v l) (hu : SL w u m) (ha : Apart w v u) (hn : l.length + m.length ≤ 1048576) :
    Calls Try.prog 9 #[v, u] w fun e w' => ∃ v', e = .returned v' ∧ Gath w w' v v' (l ++ m) := by
  have hu0 := hu
  obtain ⟨a, c, hu1, _, _, _⟩ := hu
  subst hu1
  go_enter Try.func9, Try.ntmps9
  go_wp2
  go_loopg [0, 5] m.length (fun g x i wr => ∃ k : Nat, g + k = m.length ∧ i = .int .i64 k ∧ Gath w wr v x (l ++ m.take k))
  case atStart => exact ⟨0, rfl, rfl, by simpa using Gath.start ho⟩
  case round =>
    obtain ⟨k, hk, rfl, G⟩ := hrel
    by_cases hlt : k < m.length
    · obtain ⟨a', c', e, _, hr, _⟩ := G.other hu0 ha
      injection e with e1 e2 e3
      subst e1 e3
      clear e2
      obtain ⟨b, o, rfl, hc⟩ := hr k hlt
      have hcb := World.block_lt_of_cell? wr _ hc
      have ho2 : Own (wr.alloc (.cells #[.int .u8 (m[k].toNat : Int)] 5)) _ _ := G.1.kept (fun j hj => Below.heap_alloc wr _ j (G.1.lt j hj)) (by simp)
      obtain ⟨v', w', hrun, ho', hg', hb'⟩ := own_append ho2 (new_one wr m[k]) (by simp; omega)
      go_wp2_with (at_builtin; refine Lib.wpList_append_run _ rfl _ _ _ _ rfl _ _ rfl rfl _ _ (hrun _) ?_)
      have G' := G.step (World.grownBy_alloc wr _ none) ho' hg' hb'
      rw [List.append_assoc, ← List.take_succ_eq_append_getElem hlt] at G'
      clear hrun ho' hg' ho2
      go_wp2
      go_roundg (m.length - (k + 1))
      case measure => omega
      case rel => exact ⟨k + 1, by omega, by go_num, G'⟩
    · go_wp2
      go_ret
      rw [List.take_of_length_le (by omega)] at G
      exact ⟨_, rfl, G⟩

/-- what the model's loop keeps: k bytes read, L written, the state i e -/
def ModR (w wr : World) (l : List UInt8) (v : Value) (i e : Bool) (k : Nat) : Prop :=
  ∃ L, cm l = L ++ run i e (l.drop k) ∧ fin false false l = fin i e (l.drop k) ∧ L.length ≤ k ∧ Gath w wr (.slice none 0 0) v L

theorem drop_at {l : List UInt8} {k : Nat} (h : k < l.length) : l.drop k = l[k] :: l.drop (k + 1) := List.drop_eq_getElem_cons h

theorem eq32 {x : UInt8} (h : ((x.toNat : Int) == 32) = true) : Hid (x = 32) := UInt8.toNat_inj.1 (by simp at h; simp; omega)
theorem ne32 {x : UInt8} (h : ((x.toNat : Int) == 32) = false) : Hid (x ≠ 32) := fun e => by rw [e] at h; simp at h
theorem eq34 {x : UInt8} (h : ((x.toNat : Int) == 34) = true) : Hid (x = 34) := UInt8.toNat_inj.1 (by simp at h; simp; omega)
theorem ne34 {x : UInt8} (h : ((x.toNat : Int) == 34) = false) : Hid (x ≠ 34) := fun e => by rw [e] at h; simp at h
theorem eq92 {x : UInt8} (h : ((x.toNat : Int) == 92) = true) : Hid (x = 92) := UInt8.toNat_inj.1 (by simp at h; simp; omega)
theorem ne92 {x : UInt8} (h : ((x.toNat : Int) == 92) = false) : Hid (x ≠ 92) := fun e => by rw [e] at h; simp at h

theorem mod_out {w w2 : World} {l L : List UInt8} {v' : Value} {i e i' e' : Bool} {k : Nat} (hlt : k < l.length) (hL : cm l = L ++ run i e (l.drop k)) (hF : fin false false l = fin i e (l.drop k)) (hLk : L.length ≤ k)
    (h1 : run i e (l[k] :: l.drop (k + 1)) = l[k] :: run i' e' (l.drop (k + 1))) (h2 : fin i e (l[k] :: l.drop (k + 1)) = fin i' e' (l.drop (k + 1))) (G : Gath w w2 (.slice none 0 0) v' (L ++ [l[k]])) :
    ModR w w2 l v' i' e' (k + 1) := by
  rw [drop_at hlt] at hL hF
  refine ⟨L ++ [l[k]], ?_, ?_, by simp; omega, G⟩
  · rw [hL, h1]; simp
  · rw [hF, h2]

theorem mod_skip {w w2 : World} {l L : List UInt8} {v' : Value} {i e i' e' : Bool} {k : Nat} (hlt : k < l.length) (hL : cm l = L ++ run i e (l.drop k)) (hF : fin false false l = fin i e (l.drop k)) (hLk : L.length ≤ k)
    (h1 : run i e (l[k] :: l.drop (k + 1)) = run i' e' (l.drop (k + 1))) (h2 : fin i e (l[k] :: l.drop (k + 1)) = fin i' e' (l.drop (k + 1))) (G : Gath w w2 (.slice none 0 0) v' L) :
    ModR w w2 l v' i' e' (k + 1) := by
  rw [drop_at hlt] at hL hF
  exact ⟨L, by rw [hL, h1], by rw [hF, h2], by omega, G⟩

set_option maxHeartbeats 1000000 in
theorem model_any (u : Value) (l : List UInt8) (w : World) (hu : SL w u l) (hn : l.length ≤ 1048576) :
    Calls Try.prog 8 #[u] w fun e w' => ∃ v', e = .returned (.tuple #[v', .bool (!(fin false false l).1)]) ∧ Gath w w' (.slice none 0 0) v' (cm l) := by
  have hu0 := hu
  obtain ⟨a, c, hu1, _, _, _⟩ := hu
  subst hu1
  go_enter Try.func8, Try.ntmps8
  go_wp2
  go_loopg [4, 5, 6, 7] l.length (fun g x ti te tk wr => ∃ (k : Nat) (i e : Bool), g + k = l.length ∧ tk = .int .i64 k ∧ ti = .bool i ∧ te = .bool e ∧ ModR w wr l x i e k)
  case atStart => exact ⟨0, false, false, rfl, rfl, rfl, rfl, [], rfl, rfl, Nat.le_refl _, Gath.start (.inl ⟨rfl, rfl⟩)⟩
  case round =>
    obtain ⟨k, i, e, hk, rfl, rfl, rfl, L, hL, hF, hLk, G⟩ := hrel
    by_cases hlt : k < l.length
    · obtain ⟨a', c', ee, _, hr, _⟩ := G.other hu0 (fun _ _ _ => by simp [Value.ownBlock])
      injection ee with e1 e2 e3
      subst e1 e3
      clear e2
      obtain ⟨b, o, rfl, hc⟩ := hr k hlt
      have hcb := World.block_lt_of_cell? wr _ hc
      have ho2 : Own (wr.alloc (.cells #[.int .u8 (l[k].toNat : Int)] 5)) _ _ := G.1.kept (fun j hj => Below.heap_alloc wr _ j (G.1.lt j hj)) (by simp)
      obtain ⟨v', w', hrun, ho', hg', hb'⟩ := own_append ho2 (new_one wr l[k]) (by simp; omega)
      have G' := G.step (World.grownBy_alloc wr _ none) ho' hg' hb'
      have HL : Hid (cm l = L ++ run i e (l.drop k)) := hL
      have HF : Hid (fin false false l = fin i e (l.drop k)) := hF
      clear hL hF hg' ho' ho2
      cases i with
      | true =>
        cases e with
        | true =>
          go_wp2_with (at_builtin; refine Lib.wpList_append_run _ rfl _ _ _ _ rfl _ _ rfl rfl _ _ (hrun _) ?_)
          go_roundg (l.length - (k + 1))
          case measure => omega
          case rel => exact ⟨k + 1, true, false, by omega, by go_num, rfl, rfl, mod_out hlt HL.out HF.out hLk (by simp [run]) (by simp [fin]) G'⟩
        | false =>
          cases h92 : ((l[k].toNat : Int) == 92) with
          | true =>
            have e92 := eq92 h92
            go_wp2_with (at_builtin; refine Lib.wpList_append_run _ rfl _ _ _ _ rfl _ _ rfl rfl _ _ (hrun _) ?_)
            go_roundg (l.length - (k + 1))
            case measure => omega
            case rel => exact ⟨k + 1, true, true, by omega, by go_num, rfl, rfl, mod_out hlt HL.out HF.out hLk (by simp [run, e92.out]) (by simp [fin, e92.out]) G'⟩
          | false =>
            have e92 := ne92 h92
            cases h34 : ((l[k].toNat : Int) == 34) with
            | true =>
              have e34 := eq34 h34
              go_wp2_with (at_builtin; refine Lib.wpList_append_run _ rfl _ _ _ _ rfl _ _ rfl rfl _ _ (hrun _) ?_)
              go_roundg (l.length - (k + 1))
              case measure => omega
              case rel => exact ⟨k + 1, false, false, by omega, by go_num, rfl, rfl, mod_out hlt HL.out HF.out hLk (by simp [run, e34.out]) (by simp [fin, e34.out]) G'⟩
            | false =>
              have e34 := ne34 h34
              go_wp2_with (at_builtin; refine Lib.wpList_append_run _ rfl _ _ _ _ rfl _ _ rfl rfl _ _ (hrun _) ?_)
              go_roundg (l.length - (k + 1))
              case measure => omega
              case rel => exact ⟨k + 1, true, false, by omega, by go_num, rfl, rfl, mod_out hlt HL.out HF.out hLk (by simp [run, e34.out, e92.out]) (by simp [fin, e34.out, e92.out]) G'⟩
      | false =>
        cases h32 : ((l[k].toNat : Int) == 32) with
        | true =>
          have e32 := eq32 h32
          go_wp2
          go_roundg (l.length - (k + 1))
          case measure => omega
          case rel => exact ⟨k + 1, false, e, by omega, by go_num, rfl, rfl, mod_skip hlt HL.out HF.out hLk (by simp [run, e32.out]) (by simp [fin, e32.out]) G⟩
        | false =>
          have e32 := ne32 h32
          cases h34 : ((l[k].toNat : Int) == 34) with
          | true =>
            have e34 := eq34 h34
            go_wp2_with (at_builtin; refine Lib.wpList_append_run _ rfl _ _ _ _ rfl _ _ rfl rfl _ _ (hrun _) ?_)
            go_roundg (l.length - (k + 1))
            case measure => omega
            case rel => exact ⟨k + 1, true, e, by omega, by go_num, rfl, rfl, mod_out hlt HL.out HF.out hLk (by simp [run, e34.out]) (by simp [fin, e34.out]) G'⟩
          | false =>
            have e34 := ne34 h34
            go_wp2_with (at_builtin; refine Lib.wpList_append_run _ rfl _ _ _ _ rfl _ _ rfl rfl _ _ (hrun _) ?_)
            go_roundg (l.length - (k + 1))
            case measure => omega
            case rel => exact ⟨k + 1, false, e, by omega, by go_num, rfl, rfl, mod_out hlt HL.out HF.out hLk (by simp [run, e34.out, e32.out]) (by simp [fin, e34.out, e32.out]) G'⟩
    · rw [List.drop_eq_nil_of_le (by omega)] at hL hF
      have hL2 : cm l = L := by rw [hL]; cases i <;> simp [run]
      have hF2 : (fin false false l).1 = i := by rw [hF]; cases i <;> simp [fin]
      have HL : Hid (cm l = L) := hL2
      have HF : Hid ((fin false false l).1 = i) := hF2
      clear hL hF hL2 hF2
      go_wp2
      go_ret2
      exact ⟨_, ret_tup (by rw [HF.out]), by rw [HL.out]; exact G⟩
end Go.Proofs.Qxb6617117a
