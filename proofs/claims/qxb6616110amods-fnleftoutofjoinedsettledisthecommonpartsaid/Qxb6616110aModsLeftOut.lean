/-
  (*flight).leftOut, and what stands above it.
-/
import Derived.Test.Qxb6616110aModsExpected
import Derived.Test.Qxb6616110aModsFlight
import Derived.Maps.RangeWalk
import Derived.Maps.AppendAt
namespace Go.Proofs.Qxb6616110aMods
open Go.RowKit Go.Maps Go.WideMaps

/-- What has been collected so far. -/
def Coll (D : DataW Unit) (S : List ByteArray) (left : Lit → Bool) (out : List ByteArray) : Prop :=
  out.Nodup ∧ ∀ x : ByteArray, x ∈ out ↔ (Maps.has D (keyS x) = true ∧ left (keyS x) = false) ∧ ¬ x ∈ S
theorem Coll.start (D : DataW Unit) (S : List ByteArray) : Coll D S (Maps.has D) [] := ⟨List.nodup_nil, fun x => by cases Maps.has D (keyS x) <;> simp⟩
theorem sameKey_keyS (x y : ByteArray) : (keyS x).sameKey (keyS y) = true ↔ x = y := by
  constructor
  · intro h
    exact keyS_inj (WideAt.sameKey_eq h)
  · rintro rfl
    exact WideAt.sameKey_self (by trivial)
theorem Coll.strike {D : DataW Unit} {S out : List ByteArray} {left : Lit → Bool} (h : Coll D S left out) {s : ByteArray} (hS : s ∈ S) : Coll D S (fun z => left z && !z.sameKey (keyS s)) out := by
  refine ⟨h.1, fun x => ?_⟩
  rw [h.2 x]
  by_cases e : x = s
  · subst e
    simp [hS]
  · have : (keyS x).sameKey (keyS s) = false := by
      cases hk : (keyS x).sameKey (keyS s)
      · rfl
      · exact absurd ((sameKey_keyS x s).1 hk) e
    simp [this]
theorem Coll.step {D : DataW Unit} {S out : List ByteArray} {left : Lit → Bool} (h : Coll D S left out) {s : ByteArray} (hS : ¬ s ∈ S) (hl : left (keyS s) = true) (hh : Maps.has D (keyS s) = true) : Coll D S (fun z => left z && !z.sameKey (keyS s)) (out ++ [s]) := by
  have hnew : ¬ s ∈ out := fun hx => by have := ((h.2 s).1 hx).1.2; rw [hl] at this; cases this
  refine ⟨List.nodup_append.2 ⟨h.1, by simp, fun a ha b hb => by simp at hb; subst hb; exact fun e => hnew (e ▸ ha)⟩, fun x => ?_⟩
  rw [List.mem_append, h.2 x]
  by_cases e : x = s
  · subst e
    simp [hS, hh, (sameKey_keyS x x).2 rfl]
  · have : (keyS x).sameKey (keyS s) = false := by
      cases hk : (keyS x).sameKey (keyS s)
      · rfl
      · exact absurd ((sameKey_keyS x s).1 hk) e
    simp [this, e]
theorem Coll.done {hs : List (ByteArray × Int)} {S out : List ByteArray} {left : Lit → Bool} (h : Coll (Hd hs) S left out) (hl : ∀ kl, left kl = false) : LeftOut (names hs) S out := by
  refine ⟨h.1, fun x => ?_⟩
  rw [h.2 x, has_Hd, hl]
  simp [names]
theorem keyOf_inv {s : ByteArray} {kl : Lit} (h : keyOf Trym.prog 9 (.string s) = some kl) : kl = keyS s ∧ s.size ≤ maxLen := by
  simp [keyOf, Trym.underlying9, mapKey] at h
  exact ⟨h.2.symm, h.1⟩

theorem keyOf_shape {key : Value} {kl : Lit} (h : keyOf Trym.prog 9 key = some kl) : ∃ s, key = .string s := by
  cases key <;> simp [keyOf, Trym.underlying9, mapKey] at h
  exact ⟨_, rfl⟩
theorem elem_shape {v : Value} {y : DataW Unit × List MemPlace} (h : plainElem (H := Unit) Trym.prog 3 v = some y) : ∃ c, v = .int .i64 c := by
  obtain ⟨c, rfl, _⟩ := plainElem_int_inv Trym.underlying3 h
  exact ⟨c, rfl⟩
theorem ownsMap_under {H : Type} {w w' : World} {b n : Nat} {D : DataW H} {k : TypeId} {R : Value → Option (DataW H × List MemPlace)} (h : w.ownsMap Trym.prog k R b n D) {B : Nat} (hb : Below B w w') (hB : b < B) : w'.ownsMap Trym.prog k R b n D := by
  obtain ⟨es, clock, h1, r⟩ := h
  exact ⟨es, clock, (hb.block b hB).trans h1, r⟩

/-- What leftOut hands back. -/
def LeftRet (base : Nat) (N S : List ByteArray) (e : Ending) (w : World) : Prop := ∃ out, RowOf base 9 1 out.length (out.map Value.string) e w ∧ LeftOut N S out

theorem ownsRow_base' {w : World} {B B' : Nat} {e : TypeId} {size n : Nat} {v : Value} {xs : List Value} (h : w.ownsRow B e size v n xs) (hB : B' ≤ B) : w.ownsRow B' e size v n xs := by
  refine ⟨h.1, ?_⟩
  rcases h.2 with h0 | ⟨g, cap, cur, e, hb, r⟩
  · exact .inl h0
  · exact .inr ⟨g, cap, cur, e, Nat.le_trans hB hb, r⟩
theorem row_lone {w : World} {base : Nat} {v : Value} {n : Nat} {xs : List Value} (h : w.ownsRow base 9 1 v n xs) : ∃ vo vc, v = .slice vo n vc := by
  rcases h.2 with ⟨rfl, rfl⟩ | ⟨g, cap, cur, rfl, _⟩
  · exact ⟨_, _, rfl⟩
  · exact ⟨_, _, rfl⟩

set_option maxHeartbeats 1000000 in
set_option maxRecDepth 100000 in
theorem leftOut_some (F b sc : Nat) (so : Option Addr) (hs : List (ByteArray × Int)) (ys : List ByteArray) (w : World) (h18 : w.cell? ⟨F, 18, none⟩ = some (.slice so ys.length sc)) (h3 : w.cell? ⟨F, 3, none⟩ = some (.map (some b))) (hu : StrsV w so ys)
    (hm : w.ownsMap Trym.prog 9 (plainElem (H := Unit) Trym.prog 3) b 1048576 (Hd hs)) (hwy : WfStrs ys) (hl : ys.length ≤ 1048576) :
    Calls Trym.prog 36 #[.pointer (some ⟨F, 0, none⟩)] w fun e w' => LeftRet w.heap.size (names hs) ys e w' ∧ Below w.heap.size w w' := by
  have hmm := fun q n w => run_makeMap_hint (P := Trym.prog) Trym.underlying53 q n w
  obtain ⟨i0, hi, hz0, hz1, hz2⟩ := info_parts Trym.info9
  have lF : F < w.heap.size := World.block_lt_of_cell? w ⟨F, 18, none⟩ h18
  have lb := hm.lt
  have a18 : ∀ o, (w.alloc o).cell? ⟨F, 18, none⟩ = some (.slice so ys.length sc) := fun o => (((Below.refl _ _).alloc (Nat.le_refl _) o).cell (by exact lF)).trans h18
  go_enter Trym.func36, Trym.ntmps36
  go_wp2
  go_loopw [19] (fun i wr => ∃ k : Nat, k ≤ ys.length ∧ i = .int .i64 k ∧ SetIs wr w.heap.size k (ys.take k) ∧ Below w.heap.size w wr) (fun i _ => ys.length - (intOf i).toNat)
  case atStart => exact ⟨0, Nat.zero_le _, rfl, SetIs.made _, (Below.refl _ _).alloc (Nat.le_refl _) _⟩
  case round =>
    obtain ⟨k, hk, rfl, hown, hnx⟩ := hrel
    by_cases hlt : k < ys.length
    · obtain ⟨bb, off, rfl, h⟩ := hu (by omega)
      obtain ⟨s, hs⟩ : ∃ s, s = ys.getD k noStr := ⟨_, rfl⟩
      have hc0 : wr.cell? ⟨bb, off + k, none⟩ = some (.string s) := by rw [hs]; exact (hnx.cell (by exact h.lt)).trans (h.at_ k hlt)
      obtain ⟨w1, hrun, hown1, hgr1⟩ := hown.add (s := s) (by unfold maxLen; omega) (by rw [hs]; exact wfStr_at hwy k)
      have hown2 : SetIs w1 w.heap.size (k + 1) (ys.take (k + 1)) := by rw [take_snoc ys k noStr hlt, ← hs]; exact hown1
      have hnx2 : Below w.heap.size w w1 := hnx.grown hgr1 hnx.size (fun j hj => by cases hj; exact Nat.le_refl _)
      clear hs hown1 hgr1
      go_wp2
      go_roundw
      case rel => exact ⟨k + 1, by omega, by go_num, hown2, hnx2⟩
      case measure => simp [intOf]; omega
    · have hke : k = ys.length := by omega
      subst hke
      rw [List.take_length] at hown
      generalize wr = wA at *
      have hsz := hnx.size
      have lS := hown.lt
      have g3 : wA.cell? ⟨F, 3, none⟩ = some (.map (some b)) := (hnx.cell (by exact lF)).trans h3
      have hmA := ownsMap_under hm hnx lb
      clear a18 h18 h3
      go_wp2_with (first | (at_range; refine wpList_range_own _ rfl _ 61 rfl 9 3 law9 Trym.underlying61 _ b 1048576 _ rfl hmA ?_; intro w0 hrg0 hg0 hs0) | go_in)
      go_frame
      have hsz0 := hmA.size_le
      go_loopw [6] (fun v wr => ∃ (left : Lit → Bool) (cnt : Nat) (out : List ByteArray), wr.ranges Trym.prog 9 (plainElem (H := Unit) Trym.prog 3) b wA.heap.size 1048576 (Hd hs) left cnt ∧ out.length + cnt ≤ 1048576 ∧
          wr.ownsRow (wA.heap.size + 1) 9 1 v out.length (out.map Value.string) ∧ Coll (Hd hs) ys left out ∧ SetIs wr w.heap.size ys.length ys ∧ Below w.heap.size w wr ∧ wA.heap.size + 1 ≤ wr.heap.size)
        (fun _ wr => wr.rangeLeft b wA.heap.size)
      case atStart =>
        exact ⟨_, _, [], hrg0, by simpa using hsz0, World.ownsRow_nil _ _ _ _, Coll.start _ _, hown.kept hg0 (by simp), hnx.grown hg0 hsz (by simp), by omega⟩
      case round =>
        obtain ⟨left, cnt, out, hrg, hcs, hrow, hC, hset, hbr, hz⟩ := hrel
        obtain ⟨vo, vc, hvv⟩ := row_lone hrow
        subst hvv
        go_wp2_with (first
          | (at_next; refine wpList_next_ranges _ rfl _ rfl 9 law9 (plainElem (H := Unit) Trym.prog 3) Value.string (Value.int .i64) (fun _ _ hk => keyOf_shape hk) (fun _ _ hv => elem_shape hv) b wA.heap.size 1048576 _ _ _ rfl hrg ?_ ?_)
          | go_in)
        · -- nothing is left
          intro hc0 hl0
          have R : LeftRet w.heap.size (names hs) ys (.returned (.slice vo out.length vc)) wr := ⟨out, ⟨vo, vc, rfl, ownsRow_base' hrow (by omega)⟩, hC.done hl0⟩
          clear hrg hrow hset
          go_wp2
          go_ret
          exact ⟨R, hbr⟩
        · -- an entry has come
          intro x c kl yd yp w2 cnt2 hkey hlk hv hat hrg2 hlt hg2 hs2 hen
          obtain ⟨rfl, hx⟩ := keyOf_inv hkey
          have hhas : Maps.has (Hd hs) (keyS x) = true := has_true_of_atKey hat
          have hne : some wA.heap.size ≠ (Value.slice vo out.length vc).ownBlock := fun e => by have := (hrow.lt _ e.symm).1; omega
          have hrow2 := hrow.kept hg2 (Or.inr hne.symm)
          have hset2 := hset.kept hg2 (by simp; omega)
          have hbr2 := hbr.grown hg2 hbr.size (fun j hj => by cases hj; exact hsz)
          have hlook := hset2.look hx
          have hzz : wA.heap.size + 1 ≤ w2.heap.size := by omega
          clear hs2
          cases hin : inB ys x
          · rw [hin] at hlook
            have hC2 := hC.step (fun h => by rw [inB_true h] at hin; cases hin) hlk hhas
            have hneb : some b ≠ (Value.slice vo out.length vc).ownBlock := fun e => by have := (hrow.lt _ e.symm).1; omega
            have hneS : some w.heap.size ≠ (Value.slice vo out.length vc).ownBlock := fun e => by have := (hrow.lt _ e.symm).1; omega
            have hrlt : ∀ j, (Value.slice vo out.length vc).ownBlock = some j → w.heap.size ≤ j := fun j hj => by have := (hrow.lt _ hj).1; omega
            clear hin hrow hset hbr hC hhas hat hkey hv
            go_wp2_with (first
              | (at_builtin; refine wpList_append_own _ rfl _ _ 42 rfl (wA.heap.size + 1) 9 i0 (.string ⟨#[]⟩) 1 16 Trym.underlying42 hi hz0 hz1 hz2 rfl (by decide) _ _ _ rfl (hrow2.alloc _) ⟨w2.heap.size, 0, none⟩ 1 1 [.string x] rfl rfl (cell_one_new _ _ _) (by simp [Value.oneCell']) (by unfold maxLen at *; omega) (by omega) (by simp; omega) ?_; intro v' w3 hown' hg3 hnil3; go_frame)
              | go_in)
            have hrg3 := (hrg2.alloc (.cells #[.string x] 9)).kept hg3 hneb hne
            have hset3 := (hset2.alloc (.cells #[.string x] 9)).kept hg3 hneS
            have hbr3 := (hbr2.alloc (by omega) (.cells #[.string x] 9)).grown hg3 (by simp; omega) hrlt
            have hsz3 := hg3.size
            simp at hsz3
            go_roundw
            case rel => exact ⟨_, cnt2, out ++ [x], hrg3, by simp; omega, by simpa using hown', hC2, hset3, hbr3, by omega⟩
            case measure => rw [hrg3.left_eq, hrg.left_eq]; exact hlt
          · rw [hin] at hlook
            have hC2 := hC.strike ((inB_iff ys x).1 hin)
            clear hin hrow hset hbr hC hhas hat hkey hv
            go_wp2
            go_roundw
            case rel => exact ⟨_, cnt2, out, hrg2, by omega, hrow2, hC2, hset2, hbr2, hzz⟩
            case measure => rw [hrg2.left_eq, hrg.left_eq]; exact hlt

set_option maxHeartbeats 1000000 in
set_option maxRecDepth 100000 in
theorem leftOut_none (F sc : Nat) (so : Option Addr) (ys : List ByteArray) (w : World) (h18 : w.cell? ⟨F, 18, none⟩ = some (.slice so ys.length sc)) (h3 : w.cell? ⟨F, 3, none⟩ = some (.map none)) (hu : StrsV w so ys)
    (hwy : WfStrs ys) (hl : ys.length ≤ 1048576) :
    Calls Trym.prog 36 #[.pointer (some ⟨F, 0, none⟩)] w fun e w' => LeftRet w.heap.size [] ys e w' ∧ Below w.heap.size w w' := by
  have hmm := fun q n w => run_makeMap_hint (P := Trym.prog) Trym.underlying53 q n w
  have lF : F < w.heap.size := World.block_lt_of_cell? w ⟨F, 18, none⟩ h18
  have a18 : ∀ o, (w.alloc o).cell? ⟨F, 18, none⟩ = some (.slice so ys.length sc) := fun o => (((Below.refl _ _).alloc (Nat.le_refl _) o).cell (by exact lF)).trans h18
  go_enter Trym.func36, Trym.ntmps36
  go_wp2
  go_loopw [19] (fun i wr => ∃ k : Nat, k ≤ ys.length ∧ i = .int .i64 k ∧ SetIs wr w.heap.size k (ys.take k) ∧ Below w.heap.size w wr) (fun i _ => ys.length - (intOf i).toNat)
  case atStart => exact ⟨0, Nat.zero_le _, rfl, SetIs.made _, (Below.refl _ _).alloc (Nat.le_refl _) _⟩
  case round =>
    obtain ⟨k, hk, rfl, hown, hnx⟩ := hrel
    by_cases hlt : k < ys.length
    · obtain ⟨bb, off, rfl, h⟩ := hu (by omega)
      obtain ⟨s, hs⟩ : ∃ s, s = ys.getD k noStr := ⟨_, rfl⟩
      have hc0 : wr.cell? ⟨bb, off + k, none⟩ = some (.string s) := by rw [hs]; exact (hnx.cell (by exact h.lt)).trans (h.at_ k hlt)
      obtain ⟨w1, hrun, hown1, hgr1⟩ := hown.add (s := s) (by unfold maxLen; omega) (by rw [hs]; exact wfStr_at hwy k)
      have hown2 : SetIs w1 w.heap.size (k + 1) (ys.take (k + 1)) := by rw [take_snoc ys k noStr hlt, ← hs]; exact hown1
      have hnx2 : Below w.heap.size w w1 := hnx.grown hgr1 hnx.size (fun j hj => by cases hj; exact Nat.le_refl _)
      clear hs hown1 hgr1
      go_wp2
      go_roundw
      case rel => exact ⟨k + 1, by omega, by go_num, hown2, hnx2⟩
      case measure => simp [intOf]; omega
    · have hke : k = ys.length := by omega
      subst hke
      rw [List.take_length] at hown
      generalize wr = wA at *
      have hsz := hnx.size
      have lS := hown.lt
      have g3 : wA.cell? ⟨F, 3, none⟩ = some (.map none) := (hnx.cell (by exact lF)).trans h3
      have hrg := run_range_nilMap (P := Trym.prog) wA 61 9 3 Trym.underlying61
      have hnn : ∀ ty, (Instr.next (.pointer (some ⟨wA.heap.size, 0, none⟩)) false ty).run Trym.prog (wA.alloc (.mapIter none 0 #[] 0)) = _ := fun ty => run_next_nilMap wA ty 0 0 #[]
      clear a18 h18 h3
      go_wp2
      refine wp_loop_rounds 1 ?_
      rw [rounds_succ]
      go_wp2
      go_ret
      exact ⟨⟨[], ⟨none, 0, rfl, World.ownsRow_nil _ _ _ _⟩, List.nodup_nil, fun x => by simp⟩, hnx.alloc hsz _⟩

theorem leftOut_any (F sc : Nat) (so : Option Addr) (m : Option Nat) (hs : List (ByteArray × Int)) (ys : List ByteArray) (w : World) (h18 : w.cell? ⟨F, 18, none⟩ = some (.slice so ys.length sc)) (h3 : w.cell? ⟨F, 3, none⟩ = some (.map m)) (hu : StrsV w so ys)
    (hm : HeldMap w hs m) (hwy : WfStrs ys) (hl : ys.length ≤ 1048576) :
    Calls Trym.prog 36 #[.pointer (some ⟨F, 0, none⟩)] w fun e w' => LeftRet w.heap.size (names hs) ys e w' ∧ Below w.heap.size w w' := by
  rcases hm with ⟨rfl, rfl⟩ | ⟨b, rfl, hm⟩
  · exact leftOut_none F sc so ys w h18 h3 hu hwy hl
  · exact leftOut_some F b sc so hs ys w h18 h3 hu hm hwy hl

set_option maxHeartbeats 400000 in
theorem zzleftOut_any (F sc : Nat) (so : Option Addr) (m : Option Nat) (hs : List (ByteArray × Int)) (ys : List ByteArray) (w : World) (h18 : w.cell? ⟨F, 18, none⟩ = some (.slice so ys.length sc)) (h3 : w.cell? ⟨F, 3, none⟩ = some (.map m)) (hu : StrsV w so ys)
    (hm : HeldMap w hs m) (hwy : WfStrs ys) (hl : ys.length ≤ 1048576) :
    Calls Trym.prog 34 #[.pointer (some ⟨F, 0, none⟩)] w fun e w' => LeftRet w.heap.size (names hs) ys e w' ∧ Below w.heap.size w w' := by
  go_enter Trym.func34, Trym.ntmps34
  go_wp2_with fail
  refine (leftOut_any F sc so m hs ys _ h18 h3 hu hm hwy hl).mono ?_
  rintro e w' ⟨⟨out, ⟨vo, vc, rfl, hrow⟩, hlo⟩, hb⟩
  go_wp2
  go_ret
  exact ⟨⟨out, ⟨vo, vc, rfl, hrow⟩, hlo⟩, hb⟩

/-- A row of strings of the call's own, as a list of strings that can be read. -/
theorem row_strs {w : World} {B n vc : Nat} {vo : Option Addr} {ys : List ByteArray} (h : w.ownsRow B 9 1 (.slice vo n vc) n (ys.map Value.string)) : StrsV w vo ys := by
  intro hp
  have hl := h.1
  rw [List.length_map] at hl
  rcases h.2 with ⟨_, h0⟩ | ⟨g, cap, cur, e, _, hg, _⟩
  · omega
  · simp only [Value.slice.injEq] at e
    obtain ⟨rfl, _, rfl⟩ := e
    refine ⟨g, 0, rfl, (Array.getElem?_eq_some_iff.1 hg).1, fun j hj => ?_⟩
    rw [Nat.zero_add, h.cellAt j (by omega), List.getElem?_map, List.getD, List.getElem?_eq_getElem hj]
    rfl

set_option maxHeartbeats 400000 in
theorem leftOutOf_any (ao bo : Option Addr) (ca cb : Nat) (xs : List (ByteArray × Int)) (ys : List ByteArray) (w : World) (hv : HeldV w ao xs) (hu : StrsV w bo ys) (hw : WfHeld xs) (hwy : WfStrs ys) (hl : xs.length ≤ 1048576) (hl' : ys.length ≤ 1048576) :
    Calls Trym.prog 26 #[.slice ao xs.length ca, .slice bo ys.length cb] w fun e w' => LeftRet w.heap.size (names xs) ys e w' ∧ Below w.heap.size w w' := by
  go_enter Trym.func26, Trym.ntmps26
  go_wp2_with fail
  refine (heldMap_any ao ca xs w hv hw hl).mono ?_
  rintro e w1 ⟨⟨m, rfl, hm, hmb⟩, hb1⟩
  have hu1 := hu.later (Nat.le_refl _) hb1
  go_wp2_with fail
  refine (cloneStrings_any bo cb ys w1 hu1 hl').mono ?_
  rintro e w2 ⟨⟨vo, vc, rfl, hrow⟩, hb2⟩
  go_wp2_with fail
  refine (newFlight_any _ _ _ _ _ _ _ _ _ _ _ _ _ _ _ _ w2).mono ?_
  rintro e w3 ⟨rfl, hlaid⟩
  have hg : w2.grownBy w3 none := ⟨hlaid.below.os, hlaid.below.tape, hlaid.below.output, hlaid.below.size, fun k hk _ => hlaid.below.block k hk⟩
  have hs3 : StrsV w3 vo ys := row_strs (hrow.kept hg (by cases hv : (Value.slice vo ys.length vc).ownBlock <;> simp))
  have hm3 : HeldMap w3 xs m := by
    rcases hm with ⟨e1, e2⟩ | ⟨b, e1, hm⟩
    · exact Or.inl ⟨e1, e2⟩
    · exact Or.inr ⟨b, e1, ownsMap_under (ownsMap_under hm hb2 hm.lt) hlaid.below (Nat.lt_of_lt_of_le hm.lt hb2.size)⟩
  have h3 : w3.cell? ⟨w2.heap.size, 3, none⟩ = some (.map m) := by simp [World.cell?, hlaid.blk, flightCells]
  have h18 : w3.cell? ⟨w2.heap.size, 18, none⟩ = some (.slice vo ys.length vc) := by simp [World.cell?, hlaid.blk, flightCells]
  have hb3 : Below w.heap.size w w3 := hb1.trans ((hb2.trans (hlaid.below.mono hb2.size)).mono hb1.size)
  clear hlaid hg hrow hm hmb
  go_wp2_with fail
  refine (zzleftOut_any w2.heap.size vc vo m xs ys w3 h18 h3 hs3 hm3 hwy hl').mono ?_
  rintro e w4 ⟨⟨out, ⟨vo4, vc4, rfl, hrow4⟩, hlo⟩, hb4⟩
  have R : LeftRet w.heap.size (names xs) ys (.returned (.slice vo4 out.length vc4)) w4 := ⟨out, ⟨vo4, vc4, rfl, ownsRow_base' hrow4 hb3.size⟩, hlo⟩
  have R2 : Below w.heap.size w w4 := hb3.trans (hb4.mono hb3.size)
  clear hrow4
  go_wp2
  go_ret
  exact ⟨R, R2⟩

end Go.Proofs.Qxb6616110aMods
