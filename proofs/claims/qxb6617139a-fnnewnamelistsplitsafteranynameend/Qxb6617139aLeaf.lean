import Derived.Test.Qxb6617139aRows
import Derived.Test.Qxb6617139aShelf
import Derived.Test.Qxb6617139aPlain
import Derived.Test.Qxb6617139aKey
import Derived.Deep.RegionWith
import Derived.Deep.DeepFit
namespace Go.Proofs.Qxb6617139a
open Go.RowKit Names

theorem zb_yes (a b : ByteArray) (w : World) (h : a.size + b.size ≤ 1048576) :
    Calls Try.prog 14 #[.string a, .string b] w fun e w' => e = .returned (.bool true) ∧ w' = w := by
  go_enter Try.func14, Try.ntmps14
  go_wp2
  go_ret
  exact ⟨rfl, rfl⟩

theorem zb_no (a b : ByteArray) (w : World) (h : 1048576 < a.size + b.size) (ha : a.size ≤ 9223372036854775807) (hb : b.size ≤ 9223372036854775807) :
    Calls Try.prog 14 #[.string a, .string b] w fun e w' => e = .returned (.bool false) ∧ w' = w := by
  by_cases h1 : a.size ≤ 1048576
  · by_cases h2 : b.size ≤ 1048576
    · go_enter Try.func14, Try.ntmps14
      go_wp2
      go_ret
      exact ⟨rfl, rfl⟩
    · go_enter Try.func14, Try.ntmps14
      go_wp2
      go_ret
      exact ⟨rfl, rfl⟩
  · go_enter Try.func14, Try.ntmps14
    go_wp2
    go_ret
    exact ⟨rfl, rfl⟩

theorem joined_at (b : Nat) (s : ByteArray) (w : World) (h : w.cell? ⟨b, 0, none⟩ = some (.string s)) :
    Calls Try.prog 17 #[.pointer (some ⟨b, 0, none⟩)] w fun e w' => e = .returned (.string s) ∧ w' = w := by
  go_enter Try.func17, Try.ntmps17
  go_wp2
  go_ret
  exact ⟨rfl, rfl⟩

theorem count_at (b : Nat) (a : Option Addr) (n c : Nat) (w : World) (h : w.cell? ⟨b, 1, none⟩ = some (.slice a n c)) :
    Calls Try.prog 19 #[.pointer (some ⟨b, 0, none⟩)] w fun e w' => e = .returned (.int .i64 n) ∧ w' = w := by
  go_enter Try.func19, Try.ntmps19
  go_wp2
  go_ret
  exact ⟨rfl, rfl⟩

theorem nameCount_at (b : Nat) (a : Option Addr) (n c : Nat) (w : World) (h : w.cell? ⟨b, 1, none⟩ = some (.slice a n c)) :
    Calls Try.prog 18 #[.pointer (some ⟨b, 0, none⟩)] w fun e w' => e = .returned (.int .i64 n) ∧ w' = w := by
  go_enter Try.func18, Try.ntmps18
  go_wp2_with (go_at_call 19; refine (count_at _ _ _ _ _ h).mono ?_; rintro e w' ⟨rfl, rfl⟩)
  go_ret
  exact ⟨rfl, rfl⟩

theorem nameCount_nil (w : World) :
    Calls Try.prog 18 #[.pointer none] w fun e w' => e = .returned (.int .i64 0) ∧ w' = w := by
  go_enter Try.func18, Try.ntmps18
  go_wp2
  go_ret
  exact ⟨rfl, rfl⟩

theorem name_at (b r n c i : Nat) (x : ByteArray) (w : World) (h : w.cell? ⟨b, 1, none⟩ = some (.slice (some ⟨r, 0, none⟩) n c)) (hi : i < n) (hx : w.cell? ⟨r, i * 2 + 1, none⟩ = some (.string x)) :
    Calls Try.prog 20 #[.pointer (some ⟨b, 0, none⟩), .int .i64 i] w fun e w' => e = .returned (.string x) ∧ w' = w := by
  go_enter Try.func20, Try.ntmps20
  go_wp2
  go_ret
  exact ⟨rfl, rfl⟩

theorem key_at (b r n c i : Nat) (x : Int) (w : World) (h : w.cell? ⟨b, 1, none⟩ = some (.slice (some ⟨r, 0, none⟩) n c)) (hi : i < n) (hx : w.cell? ⟨r, i * 2, none⟩ = some (.int .u64 x)) :
    Calls Try.prog 21 #[.pointer (some ⟨b, 0, none⟩), .int .i64 i] w fun e w' => e = .returned (.int .u64 x) ∧ w' = w := by
  go_enter Try.func21, Try.ntmps21
  go_wp2
  go_ret
  exact ⟨rfl, rfl⟩

/-- a text as bytes -/
def ba (l : List UInt8) : ByteArray := ⟨l.toArray⟩

theorem extract_ba (s : ByteArray) (a b : Nat) : s.extract a b = ba ((s.data.toList.drop a).take (b - a)) := by
  have h := Lib.extract_data s a b
  unfold ba
  rw [← h]

set_option maxHeartbeats 400000 in
theorem cut_any (s : ByteArray) (w : World) (hs : s.size ≤ 1048576) :
    Calls Try.prog 33 #[.string s, .string ⟨#[0]⟩] w fun e w' => ∃ f, e = .returned (.tuple #[.string (ba (hd s.data.toList)), .string (ba (tl s.data.toList)), .bool f]) ∧ ∃ n, w' = w.drewN n := by
  by_cases hi : Lib.indexByte s.data.toList 0 < 0
  · go_enter Try.func33, Try.ntmps33
    go_wp2_with (go_at_call 34; refine (Try.stringslite_Index_one _ _ _).mono ?_; rintro e w' ⟨rfl, rfl⟩)
    go_ret3
    have h := Names.index_none _ hi
    exact ⟨false, by rw [h.1, h.2]; rfl, 0, rfl⟩
  · obtain ⟨i, hi'⟩ : ∃ i : Nat, Lib.indexByte s.data.toList 0 = i := ⟨(Lib.indexByte s.data.toList 0).toNat, by omega⟩
    have h := index_hd _ i hi'
    have hl : i < s.size := by simpa using h.2.2
    clear hi
    go_enter Try.func33, Try.ntmps33
    go_wp2_with (go_at_call 34; refine (Try.stringslite_Index_one _ _ _).mono ?_; rintro e w' ⟨rfl, rfl⟩)
    go_quiet (fail)
    go_wp2
    go_ret3
    refine ⟨true, ?_, nq, rfl⟩
    rw [h.1, h.2.1]
    congr 2
    rw [extract_ba s 0, extract_ba s (i + 1), List.take_of_length_le (l := s.data.toList.drop (i + 1)) (by simp)]
    simp

theorem cut_l (l : List UInt8) (w : World) (hl : l.length ≤ 1048576) :
    Calls Try.prog 28 #[.string (ba l), .string ⟨#[0]⟩] w fun e w' => ∃ f, e = .returned (.tuple #[.string (ba (hd l)), .string (ba (tl l)), .bool f]) ∧ ∃ n, w' = w.drewN n := by
  have hl2 : (ba l).size ≤ 1048576 := hl
  go_enter Try.func28, Try.ntmps28
  go_wp2_with (go_at_call 33; refine (cut_any (ba l) _ hl2).mono ?_; rintro e w' ⟨f, rfl, hw⟩)
  go_ret3
  exact ⟨f, rfl, hw⟩

/-- the cells of a row of names -/
def cellsOf (ns : List (List UInt8)) : List Value := ns.flatMap fun n => [.int .u64 (nk (ba n) 8 : Nat), .string (ba n)]

theorem info49 : (Try.prog.info? 49).map (fun i => (i.zero, i.size, i.bytes)) = some (some (.agg #[.int .u64 0, .string ⟨#[]⟩]), 2, 24) := by kernel_rfl

theorem own_drewN {w : World} {base : Nat} {e : TypeId} {size : Nat} {v : Value} {n : Nat} {xs : List Value} (h : w.ownsRow base e size v n xs) (k : Nat) : (w.drewN k).ownsRow base e size v n xs := h
theorem below_drewN {B : Nat} {a w : World} (h : Below B a w) (n : Nat) : Below B a (w.drewN n) := ⟨h.os, h.tape, h.output, h.size, h.block⟩

/-- what the loop keeps -/
def ListR (w wr : World) (S : List UInt8) (v : Value) (rest : List UInt8) : Prop :=
  ∃ done, names S = done ++ names rest ∧ wr.ownsRow w.heap.size 49 2 v done.length (cellsOf done) ∧ Below w.heap.size w wr ∧ (done = [] → rest ≠ [])

theorem ba_empty (l : List UInt8) : (ba l).toList.isEmpty = l.isEmpty := by
  rw [Lib.toList_data]
  rfl

/-- v is the list of the names of the (non-empty) text s -/
def IsList (w : World) (v : Value) (s : ByteArray) : Prop :=
  ∃ b r cap, v = .pointer (some ⟨b, 0, none⟩) ∧ w.cell? ⟨b, 0, none⟩ = some (.string s) ∧ w.cell? ⟨b, 1, none⟩ = some (.slice (some ⟨r, 0, none⟩) (names s.data.toList).length cap) ∧
    (∀ i (h : i < (names s.data.toList).length), w.cell? ⟨r, i * 2, none⟩ = some (.int .u64 (nk (ba (names s.data.toList)[i]) 8 : Nat)) ∧ w.cell? ⟨r, i * 2 + 1, none⟩ = some (.string (ba (names s.data.toList)[i]))) ∧
    b < w.heap.size ∧ r < w.heap.size

theorem cellsOf_len (ns : List (List UInt8)) : (cellsOf ns).length = ns.length * 2 := by
  induction ns with
  | nil => rfl
  | cons n ns ih =>
    simp only [cellsOf, List.flatMap_cons, List.length_append] at ih ⊢
    rw [ih]
    simp
    omega

theorem cellsOf_at : ∀ (ns : List (List UInt8)) (i : Nat) (h : i < ns.length), (cellsOf ns)[i * 2]? = some (.int .u64 (nk (ba ns[i]) 8 : Nat)) ∧ (cellsOf ns)[i * 2 + 1]? = some (.string (ba ns[i]))
  | [], i, h => by simp at h
  | n :: ns, 0, _ => by simp [cellsOf]
  | n :: ns, i + 1, h => by
    have ih := cellsOf_at ns i (by simpa using h)
    have e : cellsOf (n :: ns) = .int .u64 (nk (ba n) 8 : Nat) :: .string (ba n) :: cellsOf ns := by simp [cellsOf]
    rw [e, show (i + 1) * 2 = i * 2 + 1 + 1 by omega]
    simpa using ih

/-- the row that a slice owns, read -/
def RowIs (w : World) (r : Nat) (ns : List (List UInt8)) : Prop :=
  (∀ i (h : i < ns.length), w.cell? ⟨r, i * 2, none⟩ = some (.int .u64 (nk (ba ns[i]) 8 : Nat)) ∧ w.cell? ⟨r, i * 2 + 1, none⟩ = some (.string (ba ns[i]))) ∧ r < w.heap.size

theorem list_end {w : World} {B : Nat} {v : Value} {ns : List (List UInt8)} (hne : ns ≠ []) (h : w.ownsRow B 49 2 v ns.length (cellsOf ns)) :
    ∃ r cap, v = .slice (some ⟨r, 0, none⟩) ns.length cap ∧ RowIs w r ns := by
  rcases h.2 with ⟨_, hn⟩ | ⟨g, cap, cur, rfl, hB, hg, _⟩
  · exact absurd (List.eq_nil_of_length_eq_zero hn) hne
  · have hc := h.cells (g := g) rfl
    refine ⟨g, cap, rfl, fun i hi => ?_, (Array.getElem?_eq_some_iff.1 hg).1⟩
    have ha := cellsOf_at ns i hi
    have hadd : ∀ j, (⟨g, 0, none⟩ : Addr).add j = ⟨g, j, none⟩ := by intro j; unfold Addr.add; split <;> simp_all
    exact ⟨by rw [← hadd]; exact hc _ _ ha.1, by rw [← hadd]; exact hc _ _ ha.2⟩

theorem list_made {wr : World} {s : ByteArray} {r cap : Nat} {done : List (List UInt8)} (hN : names s.data.toList = done ++ names []) (R : RowIs wr r done) :
    IsList (wr.alloc (.cells #[.string s, .slice (some ⟨r, 0, none⟩) done.length cap] 47)) (.pointer (some ⟨wr.heap.size, 0, none⟩)) s := by
  have hN' : names s.data.toList = done := by rw [hN]; simp [names]
  refine ⟨_, r, cap, rfl, ?_, ?_, ?_, by simp, ?_⟩
  · rw [World.cell?_alloc_mark]; rfl
  · rw [World.cell?_alloc_mark, hN']; rfl
  · rw [hN']
    intro i hi
    have b2 : Below wr.heap.size wr (wr.alloc (.cells #[.string s, .slice (some ⟨r, 0, none⟩) done.length cap] 47)) := (Below.refl _ _).alloc (Nat.le_refl _) _
    exact ⟨(b2.cell (p := ⟨r, i * 2, none⟩) R.2).trans (R.1 i hi).1, (b2.cell (p := ⟨r, i * 2 + 1, none⟩) R.2).trans (R.1 i hi).2⟩
  · have := R.2
    simp
    omega

theorem list_step {w w2 w4 : World} {S rest : List UInt8} {v v' : Value} {done : List (List UInt8)} {o : Obj} (hr : rest ≠ []) (hN : names S = done ++ names rest) (hb : Below w.heap.size w w2)
    (hown : w2.ownsRow w.heap.size 49 2 v done.length (cellsOf done))
    (hown' : w4.ownsRow w.heap.size 49 2 v' (done.length + 1) (cellsOf done ++ [.int .u64 (nk (ba (hd rest)) 8 : Nat), .string (ba (hd rest))])) (hg : (w2.alloc o).grownBy w4 v.ownBlock) :
    ListR w w4 S v' (tl rest) := by
  refine ⟨done ++ [hd rest], ?_, ?_, ?_, ?_⟩
  · rw [hN, names_step rest hr]
    simp
  · have e : cellsOf (done ++ [hd rest]) = cellsOf done ++ [.int .u64 (nk (ba (hd rest)) 8 : Nat), .string (ba (hd rest))] := by simp [cellsOf]
    rw [e]
    simpa using hown'
  · exact (hb.alloc hb.size o).grown hg (by have := hb.size; simp; omega) (fun k hk => (hown.lt k hk).1)
  · simp

set_option maxHeartbeats 1000000 in
theorem newList_some (s : ByteArray) (w : World) (hs : s.size ≤ 1048576) (h0 : 0 < s.size) :
    Calls Try.prog 25 #[.string s] w fun e w' => ∃ v, e = .returned v ∧ IsList w' v s ∧ Below w.heap.size w w' := by
  have hsl : s.data.toList.length = s.size := by simp
  have hne : s.toList.isEmpty = false := by
    have : s.data.toList ≠ [] := fun h => by rw [h] at hsl; simp at hsl; omega
    rw [Lib.toList_data]
    simpa using this
  have hcb : Lib.countByte s.data.toList 0 ≤ s.size := by
    unfold Lib.countByte
    rw [← hsl]
    exact List.count_le_length
  obtain ⟨i0, hi, hz0, hz1, hz2⟩ := info_parts info49
  obtain ⟨w1, hrun, hown, hgrow⟩ := run_make_own (P := Try.prog) w w.heap.size 45 49 i0 (.agg #[.int .u64 0, .string ⟨#[]⟩]) 2 Try.underlying45 hi hz0 hz1 .i64 .i64 (Lib.countByte s.data.toList 0) (by rw [hz2]; omega) (by unfold maxLen; omega) (Nat.le_refl _)
  have hb1 : Below w.heap.size w w1 := (Below.refl _ _).grown hgrow (Nat.le_refl _) (by simp)
  clear hcb
  have HSL : Hid (s.data.toList.length = s.size) := hsl
  clear hsl
  go_enter Try.func25, Try.ntmps25
  go_wp2_with (go_at_call 27; refine (Try.strings_Count_one _ _ _).mono ?_; rintro e w' ⟨rfl, rfl⟩)
  go_loopg [3, 4] s.size (fun g v t wr => ∃ rest, rest.length = g ∧ g ≤ s.size ∧ t = .string (ba rest) ∧ ListR w' wr s.data.toList v rest)
  case atStart => exact ⟨s.data.toList, HSL.out, Nat.le_refl _, rfl, [], rfl, hown, hb1, fun _ h => by have := HSL.out; rw [h] at this; simp at this; omega⟩
  case round =>
    obtain ⟨rest, hg, hgs, rfl, done, hN, hown, hb, hd0⟩ := hrel
    have hE := ba_empty rest
    by_cases hr : rest = []
    · subst hr
      have hdn : done ≠ [] := fun h => hd0 h rfl
      obtain ⟨r, cap, hv, R⟩ := list_end hdn hown
      subst hv
      have HN : Hid (names s.data.toList = done ++ names []) := hN
      clear hN hg hd0 hown
      go_wp2
      go_ret
      exact ⟨_, rfl, list_made HN.out R, hb.alloc hb.size _⟩
    · have hE2 : rest.isEmpty = false := by simpa using hr
      have hll : rest.length ≤ 1048576 := by omega
      have HN : Hid (names s.data.toList = done ++ names rest) := hN
      have HG : Hid (rest.length = gk) := hg
      clear hN hg
      go_wp2_with fail
      refine (cut_l _ _ hll).mono ?_
      rintro e w2 ⟨f, rfl, n2, hw2⟩
      have hown2 := own_drewN hown n2
      rw [← hw2] at hown2
      have hdl : done.length ≤ 1048576 := by
        have h1 := names_len s.data.toList
        rw [HN.out, HSL.out, List.length_append] at h1
        omega
      have hb2 : Below w'.heap.size w' w2 := by rw [hw2]; exact below_drewN hb _
      clear hw2 hown hb
      go_wp2_with (first | (go_at_call 29; refine (nameKey_any _ _).mono ?_; rintro e w3 ⟨rfl, rfl⟩) | (at_builtin; refine wpList_append_own _ rfl (.tmp 20) (.tmp 25) 45 rfl w'.heap.size 49 i0 (.agg #[.int .u64 0, .string ⟨#[]⟩]) 2 24 Try.underlying45 hi hz0 hz1 hz2 rfl (by decide) _ _ _ rfl (hown2.alloc _) ⟨w3.heap.size, 0, none⟩ 1 1 [.int .u64 (nk (ba (hd rest)) 8 : Nat), .string (ba (hd rest))] rfl rfl ?c1 ?c2 ?c3 ?c4 ?c5 ?_))
      case c1 =>
        intro j u hj
        match j, hj with
        | 0, hj => simp at hj; subst hj; simp [Addr.add]
        | 1, hj => simp at hj; subst hj; simp [Addr.add]
      case c2 =>
        intro u hu
        simp at hu
        rcases hu with rfl | rfl <;> rfl
      case c3 => unfold maxLen; omega
      case c4 => omega
      case c5 => have := hb2.size; simp; omega
      · intro v' w4 hown4 hgrow4 _
        have R4 := list_step hr HN.out hb2 hown2 hown4 hgrow4
        have hlt := tl_lt rest hr
        clear hown4 hgrow4 hown2 hb2
        go_wp2
        go_roundg (tl rest).length
        case measure => have := HG.out; omega
        case rel => exact ⟨tl rest, rfl, by have := HG.out; omega, rfl, R4⟩
end Go.Proofs.Qxb6617139a
