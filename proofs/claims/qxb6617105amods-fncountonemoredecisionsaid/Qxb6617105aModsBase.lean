/-
  The leaf contracts of the two laws on Consumed.count: bounds, (*Consumed).count, ZZCount.
-/
import Derived.Test.Qxb6617105aModsRows
import Derived.WalkKit
import Derived.WalkSpells
import Derived.WalkLawsBesides
import Derived.Laws.CopyOwn
import Derived.Deep.AppendLies
namespace Go.Proofs.Qxb6617105aMods
open Go.RowKit

abbrev noStr : ByteArray := ByteArray.empty
/-- A slice of strings as the walk sees it. -/
structure StrsAt (w : World) (b off : Nat) (xs : List ByteArray) : Prop where
  lt : b < w.heap.size
  at_ : ∀ j, j < xs.length → w.cell? ⟨b, off + j, none⟩ = some (.string (xs.getD j noStr))
def StrsV (w : World) (ao : Option Addr) (xs : List ByteArray) : Prop := 0 < xs.length → ∃ b off, ao = some ⟨b, off, none⟩ ∧ StrsAt w b off xs
theorem StrsV.later {w w' : World} {ao : Option Addr} {xs : List ByteArray} (h : StrsV w ao xs) {B : Nat} (hB : w.heap.size ≤ B) (hb : Below B w w') : StrsV w' ao xs := by
  intro hp
  obtain ⟨b, off, e, f⟩ := h hp
  exact ⟨b, off, e, Nat.lt_of_lt_of_le f.lt hb.size, fun j hj => (hb.cell (by exact Nat.lt_of_lt_of_le f.lt hB)).trans (f.at_ j hj)⟩
theorem take_snoc {α : Type} (xs : List α) (k : Nat) (d : α) (h : k < xs.length) : xs.take (k + 1) = xs.take k ++ [xs.getD k d] := by
  rw [List.take_succ_eq_append_getElem h, List.getD, List.getElem?_eq_getElem h]; rfl

/-- It returns a bool; where that is true, p. -/
def BoolThen (p : Prop) (e : Ending) : Prop := ∃ r, e = .returned (.bool r) ∧ (r = true → p)

set_option maxHeartbeats 1000000 in
theorem zzBytes5_any (n0 n1 n2 n4 : Int) (bo : Option Addr) (cb : Nat) (ys : List ByteArray) (w : World) (hu : StrsV w bo ys) (hl' : ys.length ≤ 9223372036854775807) :
    Calls Trym.prog 5 #[.int .i64 n0, .int .i64 n1, .int .i64 n2, .slice bo ys.length cb, .int .i64 n4] w fun e w' => BoolThen (ys.length ≤ 1048576) e ∧ w = w' := by
  go_enter Trym.func5, Trym.ntmps5
  go_wp2
  · go_ret
    exact ⟨⟨_, rfl, by simp⟩, rfl⟩
  · go_loop [11, 12] (fun t i => ∃ k m : Nat, k ≤ ys.length ∧ m ≤ 1048576 ∧ i = .int .i64 k ∧ t = .int .i64 m) (fun _ i => ys.length - (intOf i).toNat)
    case atStart => exact ⟨0, ys.length, Nat.zero_le _, by omega, rfl, by go_num⟩
    case round =>
      obtain ⟨k2, m2, hk2, hm2, rfl, rfl⟩ := hrel
      by_cases hlt2 : k2 < ys.length
      · obtain ⟨b, off, rfl, h⟩ := hu (by omega)
        have hc := h.at_ k2 hlt2
        go_wp2
        · go_ret
          exact ⟨⟨_, rfl, by simp⟩, rfl⟩
        · go_ret
          exact ⟨⟨_, rfl, by simp⟩, rfl⟩
        · go_round
          case rel => exact ⟨k2 + 1, m2 + ys[k2].size, by omega, by omega, by go_num, by go_num⟩
          case measure => simp [intOf]; omega
      · go_wp2
        go_ret
        exact ⟨⟨_, rfl, fun _ => by omega⟩, rfl⟩

set_option maxHeartbeats 1000000 in
theorem zzBytes7_any (n0 n1 n2 n4 : Int) (bo : Option Addr) (cb : Nat) (ys : List ByteArray) (x : ByteArray) (w : World) (hu : StrsV w bo ys) (hl' : ys.length ≤ 9223372036854775807) (hx : x.size ≤ 9223372036854775807) :
    Calls Trym.prog 7 #[.int .i64 n0, .int .i64 n1, .int .i64 n2, .slice bo ys.length cb, .int .i64 n4, .string x] w fun e w' => BoolThen (ys.length ≤ 1048576) e ∧ w = w' := by
  go_enter Trym.func7, Trym.ntmps7
  go_wp2
  · go_ret
    exact ⟨⟨_, rfl, by simp⟩, rfl⟩
  · go_loop [13, 14] (fun t i => ∃ k m : Nat, k ≤ ys.length ∧ m ≤ 1048576 ∧ i = .int .i64 k ∧ t = .int .i64 m) (fun _ i => ys.length - (intOf i).toNat)
    case atStart => exact ⟨0, ys.length, Nat.zero_le _, by omega, rfl, by go_num⟩
    case round =>
      obtain ⟨k2, m2, hk2, hm2, rfl, rfl⟩ := hrel
      by_cases hlt2 : k2 < ys.length
      · obtain ⟨b, off, rfl, h⟩ := hu (by omega)
        have hc := h.at_ k2 hlt2
        go_wp2
        · go_ret
          exact ⟨⟨_, rfl, by simp⟩, rfl⟩
        · go_ret
          exact ⟨⟨_, rfl, by simp⟩, rfl⟩
        · go_round
          case rel => exact ⟨k2 + 1, m2 + ys[k2].size, by omega, by omega, by go_num, by go_num⟩
          case measure => simp [intOf]; omega
      · go_wp2
        · go_ret
          exact ⟨⟨_, rfl, by simp⟩, rfl⟩
        · go_ret
          exact ⟨⟨_, rfl, by simp⟩, rfl⟩
        · go_ret
          exact ⟨⟨_, rfl, fun _ => by omega⟩, rfl⟩

/-- Is it the word applied? How many of a list are, how many are not? -/
def isA (s : ByteArray) : Bool := s.toList == [97, 112, 112, 108, 105, 101, 100]
def cnt (xs : List ByteArray) : Nat := (xs.filter isA).length
def oth (xs : List ByteArray) : Nat := (xs.filter fun x => !isA x).length
theorem cnt_oth (xs : List ByteArray) : cnt xs + oth xs = xs.length := by
  unfold cnt oth
  induction xs with
  | nil => rfl
  | cons x r ih => cases h : isA x <;> simp [h] <;> omega
theorem cnt_append (xs ys : List ByteArray) : cnt (xs ++ ys) = cnt xs + cnt ys := by simp [cnt]
theorem oth_append (xs ys : List ByteArray) : oth (xs ++ ys) = oth xs + oth ys := by simp [oth]
theorem cnt_yes {x : ByteArray} (h : isA x = true) : cnt [x] = 1 ∧ oth [x] = 0 := by simp [cnt, oth, h]
theorem cnt_no {x : ByteArray} (h : isA x = false) : cnt [x] = 0 ∧ oth [x] = 1 := by simp [cnt, oth, h]

/-- a, raised k times as Go's int is. -/
def up (a : Int) (k : Nat) : Int := wrap64 (a + (k : Int))
theorem up_zero {a : Int} (h : (Lit.int .i64 a).wf = true) : up a 0 = a := by
  simp only [Lit.wf, IntKind.min, IntKind.max, IntKind.signed, IntKind.bits, Bool.and_eq_true, decide_eq_true_eq, if_true] at h
  unfold up wrap64
  omega
theorem up_succ (a : Int) (k : Nat) : wrap64 (up a k + 1) = up a (k + 1) := by
  unfold up wrap64
  omega
theorem up_up (a : Int) (j k : Nat) : up (up a j) k = up a (j + k) := by
  unfold up wrap64
  omega
theorem up_wf (a : Int) (k : Nat) : (Lit.int .i64 (up a k)).wf = true := wrap64_wf _

/-- What count has done to the Consumed in block C. -/
structure Counted (C : Nat) (a s x : Int) (ys : List ByteArray) (w w' : World) : Prop where
  c0 : w'.cell? ⟨C, 0, none⟩ = some (.int .i64 (up a (cnt ys)))
  c1 : w'.cell? ⟨C, 1, none⟩ = some (.int .i64 (up s (oth ys)))
  c2 : w'.cell? ⟨C, 2, none⟩ = some (.int .i64 x)
  f0 : w'.frozen? ⟨C, 0, none⟩ = false
  f1 : w'.frozen? ⟨C, 1, none⟩ = false
  kept : w.grownBy w' (some C)

theorem Counted.start {C : Nat} {a s x : Int} {w : World} (ha : (Lit.int .i64 a).wf = true) (hs : (Lit.int .i64 s).wf = true) (h0 : w.cell? ⟨C, 0, none⟩ = some (.int .i64 a)) (h1 : w.cell? ⟨C, 1, none⟩ = some (.int .i64 s)) (h2 : w.cell? ⟨C, 2, none⟩ = some (.int .i64 x))
    (f0 : w.frozen? ⟨C, 0, none⟩ = false) (f1 : w.frozen? ⟨C, 1, none⟩ = false) : Counted C a s x [] w w :=
  ⟨by rw [h0]; show _ = some (Value.int .i64 (up a 0)); rw [up_zero ha], by rw [h1]; show _ = some (Value.int .i64 (up s 0)); rw [up_zero hs], h2, f0, f1, World.grownBy.refl _ _⟩

theorem grownBy_setCell {w w' : World} {C o : Nat} (h : w.grownBy w' (some C)) (u : Value) : w.grownBy (w'.setCell ⟨C, o, none⟩ u) (some C) :=
  ⟨h.os, h.tape, h.output, by simpa using h.size, fun k hk hkC => by rw [Below.heap_setCell _ _ _ _ (fun e => hkC (by rw [e])), h.block k hk hkC]⟩

theorem Counted.yes {C : Nat} {a s x : Int} {L : List ByteArray} {y : ByteArray} {w w' : World} (h : Counted C a s x L w w') (hy : isA y = true) : Counted C a s x (L ++ [y]) w (w'.setCell ⟨C, 0, none⟩ (.int .i64 (wrap64 (up a (cnt L) + 1)))) := by
  obtain ⟨e1, e2⟩ := cnt_yes hy
  refine ⟨?_, ?_, ?_, ?_, ?_, grownBy_setCell h.kept _⟩
  · rw [cnt_append, e1, up_succ]; exact World.cell?_setCell_same _ _ _ h.c0
  · rw [oth_append, e2, Nat.add_zero]; exact (World.cell?_setCell_other _ _ _ _ (by simp)).trans h.c1
  · exact (World.cell?_setCell_other _ _ _ _ (by simp)).trans h.c2
  · rw [World.frozen?_setCell]; exact h.f0
  · rw [World.frozen?_setCell]; exact h.f1
theorem Counted.no {C : Nat} {a s x : Int} {L : List ByteArray} {y : ByteArray} {w w' : World} (h : Counted C a s x L w w') (hy : isA y = false) : Counted C a s x (L ++ [y]) w (w'.setCell ⟨C, 1, none⟩ (.int .i64 (wrap64 (up s (oth L) + 1)))) := by
  obtain ⟨e1, e2⟩ := cnt_no hy
  refine ⟨?_, ?_, ?_, ?_, ?_, grownBy_setCell h.kept _⟩
  · rw [cnt_append, e1, Nat.add_zero]; exact (World.cell?_setCell_other _ _ _ _ (by simp)).trans h.c0
  · rw [oth_append, e2, up_succ]; exact World.cell?_setCell_same _ _ _ h.c1
  · exact (World.cell?_setCell_other _ _ _ _ (by simp)).trans h.c2
  · rw [World.frozen?_setCell]; exact h.f0
  · rw [World.frozen?_setCell]; exact h.f1

set_option maxHeartbeats 1000000 in
set_option maxRecDepth 100000 in
theorem count_any (C : Nat) (bo : Option Addr) (cb : Nat) (ys : List ByteArray) (a s x : Int) (w : World) (hu : StrsV w bo ys) (hl : ys.length ≤ 1048576) (hC : ∀ b off, bo = some ⟨b, off, none⟩ → b ≠ C) (ha : (Lit.int .i64 a).wf = true) (hs : (Lit.int .i64 s).wf = true)
    (h0 : w.cell? ⟨C, 0, none⟩ = some (.int .i64 a)) (h1 : w.cell? ⟨C, 1, none⟩ = some (.int .i64 s)) (h2 : w.cell? ⟨C, 2, none⟩ = some (.int .i64 x)) (f0 : w.frozen? ⟨C, 0, none⟩ = false) (f1 : w.frozen? ⟨C, 1, none⟩ = false) :
    Calls Trym.prog 8 #[.pointer (some ⟨C, 0, none⟩), .slice bo ys.length cb] w fun e w' => e = .returned (.tuple #[]) ∧ Counted C a s x ys w w' := by
  have hst := Counted.start ha hs h0 h1 h2 f0 f1
  clear h0 h1 h2 f0 f1 ha hs
  go_enter Trym.func8, Trym.ntmps8
  go_wp2
  go_loopw [8] (fun i wr => ∃ k : Nat, k ≤ ys.length ∧ i = .int .i64 k ∧ Counted C a s x (ys.take k) w wr) (fun i _ => ys.length - (intOf i).toNat)
  case atStart => exact ⟨0, Nat.zero_le _, rfl, hst⟩
  case round =>
    obtain ⟨k, hk, rfl, hcd⟩ := hrel
    by_cases hlt : k < ys.length
    · obtain ⟨b, off, rfl, h⟩ := hu (by omega)
      obtain ⟨y, hy⟩ : ∃ y, y = ys.getD k noStr := ⟨_, rfl⟩
      have hbC := hC b off rfl
      have hc := hcd.kept.cell (h.at_ k hlt) (by simpa using hbC)
      have hstep : ys.take (k + 1) = ys.take k ++ [y] := by rw [take_snoc ys k noStr hlt, hy]
      rw [← hy] at hc
      have c0 := hcd.c0
      have c1 := hcd.c1
      have f0 := hcd.f0
      have f1 := hcd.f1
      clear hy
      cases hA : isA y
      · have R := hcd.no hA
        rw [← hstep] at R
        have hb : (y.toList == [97, 112, 112, 108, 105, 101, 100]) = false := hA
        clear hA hstep hcd hst
        go_wp2
        go_roundw
        case rel => exact ⟨k + 1, by omega, by go_num, R⟩
        case measure => simp [intOf]; omega
      · have R := hcd.yes hA
        rw [← hstep] at R
        have hb : (y.toList == [97, 112, 112, 108, 105, 101, 100]) = true := hA
        clear hA hstep hcd hst
        go_wp2
        go_roundw
        case rel => exact ⟨k + 1, by omega, by go_num, R⟩
        case measure => simp [intOf]; omega
    · have : k = ys.length := by omega
      subst this
      rw [List.take_length] at hcd
      go_wp2
      go_end0
      exact ⟨rfl, hcd⟩

end Go.Proofs.Qxb6617105aMods
