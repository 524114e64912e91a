/-
  The leaf contracts of FnCountBatchRefusalMovesTheRefusalOnce and its fellows: bounds, comparisons, maps and slices that the law's own helpers make.
-/
import Derived.Test.Qxb6616110aModsRows
import Derived.WalkKit
import Derived.WalkSpells
import Derived.WalkLawsBesides
import Derived.Maps.OwnSet
namespace Go.Proofs.Qxb6616110aMods
open Go.RowKit Go.Maps

/-- A slice of Fail as the walk sees it: at block b from offset off on. -/
structure FailsAt (w : World) (b off : Nat) (xs : List (Int × ByteArray)) : Prop where
  lt : b < w.heap.size
  id : ∀ j, j < xs.length → w.cell? ⟨b, off + j * 2, none⟩ = some (.int .i64 (xs.getD j (0, ByteArray.empty)).1)
  err : ∀ j, j < xs.length → w.cell? ⟨b, off + j * 2 + 1, none⟩ = some (.string (xs.getD j (0, ByteArray.empty)).2)

def FailsV (w : World) (ao : Option Addr) (xs : List (Int × ByteArray)) : Prop := 0 < xs.length → ∃ b off, ao = some ⟨b, off, none⟩ ∧ FailsAt w b off xs

def WfIds (xs : List (Int × ByteArray)) : Prop := ∀ x ∈ xs, (Lit.int .i64 x.1).wf = true

set_option maxHeartbeats 400000 in
theorem failsBytes_any (ao : Option Addr) (cap : Nat) (xs : List (Int × ByteArray)) (n : Int) (w : World) (hv : FailsV w ao xs) (hl : xs.length ≤ 1048576) :
    Calls Trym.prog 10 #[.slice ao xs.length cap, .int .i64 n] w fun e w' => (∃ r, e = .returned (.int .i64 r)) ∧ w = w' := by
  go_enter Trym.func10, Trym.ntmps10
  go_wp2
  · go_ret
    exact ⟨⟨_, rfl⟩, rfl⟩
  · go_loop [1, 5] (fun t i => ∃ k : Nat, ∃ m : Int, k ≤ xs.length ∧ i = .int .i64 k ∧ t = .int .i64 m) (fun _ i => xs.length - (intOf i).toNat)
    case atStart => exact ⟨0, n, Nat.zero_le _, rfl, rfl⟩
    case round =>
      obtain ⟨k, m, hk, rfl, rfl⟩ := hrel
      by_cases hlt : k < xs.length
      · obtain ⟨b, off, rfl, h⟩ := hv (by omega)
        have hc := h.err k hlt
        go_wp2
        · go_ret
          exact ⟨⟨_, rfl⟩, rfl⟩
        · go_ret
          exact ⟨⟨_, rfl⟩, rfl⟩
        · go_round
          case rel => exact ⟨k + 1, _, by omega, by go_num, rfl⟩
          case measure => simp [intOf]; omega
      · go_wp2
        go_ret
        exact ⟨⟨_, rfl⟩, rfl⟩

/-- It returns a bool; where that is true, p. -/
def BoolThen (p : Prop) (e : Ending) : Prop := ∃ r, e = .returned (.bool r) ∧ (r = true → p)

set_option maxHeartbeats 1000000 in
theorem zzBytes3_any (ao bo : Option Addr) (ca cb : Nat) (xs ys : List (Int × ByteArray)) (id : Int) (w : World) (hv : FailsV w ao xs) (hu : FailsV w bo ys) (hl : xs.length ≤ 9223372036854775807) (hl' : ys.length ≤ 9223372036854775807) :
    Calls Trym.prog 9 #[.slice ao xs.length ca, .slice bo ys.length cb, .int .i64 id] w fun e w' => BoolThen (xs.length ≤ 1048576 ∧ ys.length ≤ 1048576) e ∧ w = w' := by
  go_enter Trym.func9, Trym.ntmps9
  go_wp2
  · go_ret
    exact ⟨⟨_, rfl, by simp⟩, rfl⟩
  · go_loop [7, 8] (fun t i => ∃ k m : Nat, k ≤ xs.length ∧ m ≤ 1048576 ∧ i = .int .i64 k ∧ t = .int .i64 m) (fun _ i => xs.length - (intOf i).toNat)
    case atStart => exact ⟨0, xs.length, Nat.zero_le _, by omega, rfl, rfl⟩
    case round =>
      obtain ⟨k, m, hk, hm, rfl, rfl⟩ := hrel
      by_cases hlt : k < xs.length
      · obtain ⟨b, off, rfl, h⟩ := hv (by omega)
        have hc := h.err k hlt
        go_wp2
        · go_ret
          exact ⟨⟨_, rfl, by simp⟩, rfl⟩
        · go_ret
          exact ⟨⟨_, rfl, by simp⟩, rfl⟩
        · go_round
          case rel => exact ⟨k + 1, m + xs[k].2.size, by omega, by omega, by go_num, by go_num⟩
          case measure => simp [intOf]; omega
      · go_wp2
        · go_ret
          exact ⟨⟨_, rfl, by simp⟩, rfl⟩
        · go_ret
          exact ⟨⟨_, rfl, by simp⟩, rfl⟩
        · go_loop [7, 9] (fun t i => ∃ k m : Nat, k ≤ ys.length ∧ m ≤ 1048576 ∧ i = .int .i64 k ∧ t = .int .i64 m) (fun _ i => ys.length - (intOf i).toNat)
          case atStart => exact ⟨0, m + ys.length, Nat.zero_le _, by omega, rfl, by go_num⟩
          case round =>
            obtain ⟨k2, m2, hk2, hm2, rfl, rfl⟩ := hrel
            by_cases hlt2 : k2 < ys.length
            · obtain ⟨b, off, rfl, h⟩ := hu (by omega)
              have hc := h.err k2 hlt2
              go_wp2
              · go_ret
                exact ⟨⟨_, rfl, by simp⟩, rfl⟩
              · go_ret
                exact ⟨⟨_, rfl, by simp⟩, rfl⟩
              · go_round
                case rel => exact ⟨k2 + 1, m2 + ys[k2].2.size, by omega, by omega, by go_num, by go_num⟩
                case measure => simp [intOf]; omega
            · go_wp2
              go_ret
              exact ⟨⟨_, rfl, fun _ => ⟨by omega, by omega⟩⟩, rfl⟩

set_option maxHeartbeats 400000 in
theorem sameFail_eq (a b : Int) (s t : ByteArray) (hab : a = b) (hst : s = t) (w : World) :
    Calls Trym.prog 17 #[.agg #[.int .i64 a, .string s], .agg #[.int .i64 b, .string t]] w fun e w' => e = .returned (.bool true) ∧ Below w.heap.size w w' := by
  subst hab
  subst hst
  go_enter Trym.func17, Trym.ntmps17
  go_wp2
  go_ret
  exact ⟨by simp, ((Below.refl _ _).alloc (Nat.le_refl _) _).alloc (by simp) _⟩

set_option maxHeartbeats 400000 in
theorem zzfailed_any (b off : Nat) (v : Value) (w : World) (h : w.cell? ⟨b, off + 16, none⟩ = some v) :
    Calls Trym.prog 16 #[.pointer (some ⟨b, off, none⟩)] w fun e w' => e = .returned v ∧ w = w' := by
  go_enter Trym.func16, Trym.ntmps16
  go_wp2
  go_ret
  exact ⟨rfl, rfl⟩

set_option maxHeartbeats 400000 in
theorem zzrefusals_any (b off : Nat) (v : Value) (w : World) (h : w.cell? ⟨b, off + 13, none⟩ = some v) :
    Calls Trym.prog 18 #[.pointer (some ⟨b, off, none⟩)] w fun e w' => e = .returned v ∧ w = w' := by
  go_enter Trym.func18, Trym.ntmps18
  go_wp2
  go_ret
  exact ⟨rfl, rfl⟩

/-- An element of map[int64]Fail, of map[int64]Failure. -/
def failV (a : Int) (s : ByteArray) : Value := .agg #[.int .i64 a, .string s]
def failR : Value → Option (DataW Value × List MemPlace)
  | .agg ⟨[.int .i64 a, .string s]⟩ => some (.held (failV a s), [])
  | _ => none
theorem failR_mk (a : Int) (s : ByteArray) : failR (.agg #[.int .i64 a, .string s]) = some (.held (failV a s), []) := rfl
theorem failR_inv {v : Value} {z : DataW Value × List MemPlace} (h : failR v = some z) : ∃ a s, v = .agg #[.int .i64 a, .string s] ∧ z = (.held (failV a s), []) := by
  unfold failR at h
  split at h
  · cases h; exact ⟨_, _, rfl, rfl⟩
  · cases h
def Dm (xs : List (Int × ByteArray)) : DataW Value := xs.foldl (fun m x => m.put (.int .i64 x.1) (.held (failV x.1 x.2))) (.map [])
theorem Dm_snoc (xs : List (Int × ByteArray)) (x : Int × ByteArray) : Dm (xs ++ [x]) = (Dm xs).put (.int .i64 x.1) (.held (failV x.1 x.2)) := by simp [Dm]

theorem wf_at {xs : List (Int × ByteArray)} (h : WfIds xs) (k : Nat) : (Lit.int .i64 (xs.getD k (0, ByteArray.empty)).1).wf = true := by
  by_cases hk : k < xs.length
  · rw [List.getD, List.getElem?_eq_getElem hk]
    exact h _ (List.getElem_mem hk)
  · rw [List.getD, List.getElem?_eq_none (by omega)]
    decide
theorem take_snoc {α : Type} (xs : List α) (k : Nat) (d : α) (h : k < xs.length) : xs.take (k + 1) = xs.take k ++ [xs.getD k d] := by
  rw [List.take_succ_eq_append_getElem h, List.getD, List.getElem?_eq_getElem h]; rfl
theorem Dm_step {xs : List (Int × ByteArray)} {k : Nat} (h : k < xs.length) {a : Int} {s : ByteArray} (ha : a = (xs.getD k (0, ByteArray.empty)).1) (hs : s = (xs.getD k (0, ByteArray.empty)).2) :
    Dm (xs.take (k + 1)) = (Dm (xs.take k)).put (.int .i64 a) (.held (failV a s)) := by
  rw [take_snoc xs k (0, ByteArray.empty) h, Dm_snoc, ha, hs]

theorem law2 : Keyed Trym.prog 2 := int_keyed Trym.underlying2

theorem run_makeMap_hint {P : Program} {t k e : TypeId} (ht : P.underlying t = some (.map k e)) (q : IntKind) (n : Int) (w : World) :
    (Instr.makeMap t (some (.int q n))).run P w = .ok (.map (some w.heap.size)) (w.alloc (.map #[] 0)) := by
  simp [Instr.makeMap, run_underlying ht, Result.andThen, asInt, asIntOf]

set_option maxHeartbeats 400000 in
theorem lastByID_any (ao : Option Addr) (cap : Nat) (xs : List (Int × ByteArray)) (w : World) (hv : FailsV w ao xs) (hw : WfIds xs) (hl : xs.length ≤ 1048576) :
    Calls Trym.prog 11 #[.slice ao xs.length cap] w fun e w' => e = .returned (.map (some w.heap.size)) ∧ w'.ownsMap Trym.prog 2 failR w.heap.size xs.length (Dm xs) ∧ Below w.heap.size w w' := by
  have hmm := fun q n w => run_makeMap_hint (P := Trym.prog) Trym.underlying25 q n w
  go_enter Trym.func11, Trym.ntmps11
  go_wp2
  go_loopw [4] (fun i wr => ∃ k : Nat, k ≤ xs.length ∧ i = .int .i64 k ∧ wr.ownsMap Trym.prog 2 failR w.heap.size k (Dm (xs.take k)) ∧ Below w.heap.size w wr) (fun i _ => xs.length - (intOf i).toNat)
  case atStart => exact ⟨0, Nat.zero_le _, rfl, World.ownsMap_made _ _ _ _, (Below.refl _ _).alloc (Nat.le_refl _) _⟩
  case round =>
    obtain ⟨k, hk, rfl, hown, hnx⟩ := hrel
    by_cases hlt : k < xs.length
    · obtain ⟨b, off, rfl, h⟩ := hv (by omega)
      obtain ⟨a, ha⟩ : ∃ a, a = (xs.getD k (0, ByteArray.empty)).1 := ⟨_, rfl⟩
      obtain ⟨s, hs⟩ : ∃ s, s = (xs.getD k (0, ByteArray.empty)).2 := ⟨_, rfl⟩
      have hc0 : wr.cell? ⟨b, off + k * 2, none⟩ = some (.int .i64 a) := by rw [ha]; exact (hnx.cell (by exact h.lt)).trans (h.id k hlt)
      have hc1 : wr.cell? ⟨b, off + k * 2 + 1, none⟩ = some (.string s) := by rw [hs]; exact (hnx.cell (by exact h.lt)).trans (h.err k hlt)
      have hkey : keyOf Trym.prog 2 (.int .i64 a) = some (.int .i64 a) := keyOf_int_mk Trym.underlying2 (by rw [ha]; exact wf_at hw k)
      have HD : Hid (Dm (xs.take (k + 1)) = (Dm (xs.take k)).put (.int .i64 a) (.held (failV a s))) := Dm_step hlt ha hs
      clear ha hs
      obtain ⟨w1, hrun, hown1, hgr1⟩ := hown.drew.update law2 Trym.underlying25 (by unfold maxLen; omega) hkey (failR_mk a s)
      have hown2 : w1.ownsMap Trym.prog 2 failR w.heap.size (k + 1) (Dm (xs.take (k + 1))) := by rw [HD.out]; exact hown1
      have hnx2 : Below w.heap.size w w1 := hnx.drew.grown hgr1 hnx.size (fun j hj => by cases hj; exact Nat.le_refl _)
      go_wp2
      go_region
      go_wp2
      go_roundw
      case rel => exact ⟨k + 1, by omega, by go_num, hown2, hnx2⟩
      case measure => simp [intOf]; omega
    · have : k = xs.length := by omega
      subst this
      rw [List.take_length] at hown
      go_wp2
      go_ret
      exact ⟨rfl, hown, hnx⟩


set_option maxHeartbeats 400000 in
theorem refusalMap_any (ao : Option Addr) (cap : Nat) (xs : List (Int × ByteArray)) (w : World) (hv : FailsV w ao xs) (hw : WfIds xs) (hl : xs.length ≤ 1048576) :
    Calls Trym.prog 13 #[.slice ao xs.length cap] w fun e w' => e = .returned (.map (some w.heap.size)) ∧ w'.ownsMap Trym.prog 2 failR w.heap.size xs.length (Dm xs) ∧ Below w.heap.size w w' := by
  have hmm := fun q n w => run_makeMap_hint (P := Trym.prog) Trym.underlying32 q n w
  go_enter Trym.func13, Trym.ntmps13
  go_wp2
  go_loopw [4] (fun i wr => ∃ k : Nat, k ≤ xs.length ∧ i = .int .i64 k ∧ wr.ownsMap Trym.prog 2 failR w.heap.size k (Dm (xs.take k)) ∧ Below w.heap.size w wr) (fun i _ => xs.length - (intOf i).toNat)
  case atStart => exact ⟨0, Nat.zero_le _, rfl, World.ownsMap_made _ _ _ _, (Below.refl _ _).alloc (Nat.le_refl _) _⟩
  case round =>
    obtain ⟨k, hk, rfl, hown, hnx⟩ := hrel
    by_cases hlt : k < xs.length
    · obtain ⟨b, off, rfl, h⟩ := hv (by omega)
      obtain ⟨a, ha⟩ : ∃ a, a = (xs.getD k (0, ByteArray.empty)).1 := ⟨_, rfl⟩
      obtain ⟨s, hs⟩ : ∃ s, s = (xs.getD k (0, ByteArray.empty)).2 := ⟨_, rfl⟩
      have hc0 : wr.cell? ⟨b, off + k * 2, none⟩ = some (.int .i64 a) := by rw [ha]; exact (hnx.cell (by exact h.lt)).trans (h.id k hlt)
      have hc1 : wr.cell? ⟨b, off + k * 2 + 1, none⟩ = some (.string s) := by rw [hs]; exact (hnx.cell (by exact h.lt)).trans (h.err k hlt)
      have hkey : keyOf Trym.prog 2 (.int .i64 a) = some (.int .i64 a) := keyOf_int_mk Trym.underlying2 (by rw [ha]; exact wf_at hw k)
      have HD : Hid (Dm (xs.take (k + 1)) = (Dm (xs.take k)).put (.int .i64 a) (.held (failV a s))) := Dm_step hlt ha hs
      clear ha hs
      obtain ⟨w1, hrun, hown1, hgr1⟩ := hown.drew.update law2 Trym.underlying32 (by unfold maxLen; omega) hkey (failR_mk a s)
      have hown2 : w1.ownsMap Trym.prog 2 failR w.heap.size (k + 1) (Dm (xs.take (k + 1))) := by rw [HD.out]; exact hown1
      have hnx2 : Below w.heap.size w w1 := hnx.drew.grown hgr1 hnx.size (fun j hj => by cases hj; exact Nat.le_refl _)
      go_wp2
      go_region
      go_wp2
      go_roundw
      case rel => exact ⟨k + 1, by omega, by go_num, hown2, hnx2⟩
      case measure => simp [intOf]; omega
    · have : k = xs.length := by omega
      subst this
      rw [List.take_length] at hown
      go_wp2
      go_ret
      exact ⟨rfl, hown, hnx⟩

/-- The cells of a list of failures. -/
def flat (xs : List (Int × ByteArray)) : List Value := xs.flatMap fun x => [.int .i64 x.1, .string x.2]
theorem flat_snoc (xs : List (Int × ByteArray)) (x : Int × ByteArray) : flat (xs ++ [x]) = flat xs ++ [.int .i64 x.1, .string x.2] := by simp [flat]
theorem set2 (cs : List Value) (k : Nat) (u v : Value) (h : k * 2 + 2 ≤ cs.length) : ((cs.set (k * 2) u).set (k * 2 + 1) v).take ((k + 1) * 2) = cs.take (k * 2) ++ [u, v] := by
  apply List.ext_getElem?
  intro j
  rw [List.getElem?_take]
  by_cases h1 : j < k * 2
  · rw [if_pos (by omega), List.getElem?_append_left (by simp; omega), List.getElem?_take, if_pos h1, List.getElem?_set_ne (by omega), List.getElem?_set_ne (by omega)]
  · rw [List.getElem?_append_right (by simp; omega)]
    have hm : min (k * 2) cs.length = k * 2 := by omega
    rw [List.length_take, hm]
    by_cases h2 : j = k * 2
    · subst h2
      rw [if_pos (by omega), List.getElem?_set_ne (by omega), List.getElem?_set_self (by omega)]; simp
    · by_cases h3 : j = k * 2 + 1
      · subst h3
        rw [if_pos (by omega), List.getElem?_set_self (by simp; omega), show k * 2 + 1 - k * 2 = 1 by omega]; simp
      · rw [if_neg (by omega), List.getElem?_eq_none (by simp; omega)]

/-- A slice of the call's own. -/
def RowOf (base : Nat) (t : TypeId) (size n : Nat) (cs : List Value) (e : Ending) (w : World) : Prop := ∃ vo vc, e = .returned (.slice vo n vc) ∧ w.ownsRow base t size (.slice vo n vc) n cs

theorem Trym.info39 : (Trym.prog.info? 39).map (fun i => (i.zero, i.size, i.bytes)) = some (some (.agg #[.int .i64 0, .string ⟨#[]⟩]), 2, 24) := by kernel_rfl

set_option maxHeartbeats 400000 in
set_option maxRecDepth 100000 in
theorem toFailures_any (ao : Option Addr) (cap : Nat) (xs : List (Int × ByteArray)) (w : World) (hv : FailsV w ao xs) (hl : xs.length ≤ 1048576) :
    Calls Trym.prog 14 #[.slice ao xs.length cap] w fun e w' => RowOf w.heap.size 39 2 xs.length (flat xs) e w' ∧ Below w.heap.size w w' := by
  obtain ⟨i0, hi, hz0, hz1, hz2⟩ := info_parts Trym.info39
  cases ao with
  | none =>
    have h0 : xs = [] := by
      cases xs with
      | nil => rfl
      | cons x r => obtain ⟨b, off, h, _⟩ := hv (by simp); cases h
    subst h0
    have hq := fun w => Lib.run_eql_slice_nil (P := Trym.prog) w 22 28 none 0 cap 0 0 Trym.underlying22
    go_enter Trym.func14, Trym.ntmps14
    go_wp2
    go_ret
    exact ⟨⟨none, 0, rfl, World.ownsRow_nil _ _ _ _⟩, Below.refl _ _⟩
  | some ad =>
    have hq := fun w => Lib.run_eql_slice_nil (P := Trym.prog) w 22 28 (some ad) xs.length cap 0 0 Trym.underlying22
    go_enter Trym.func14, Trym.ntmps14
    go_wp2_with (first | (at_make; refine wpList_make_full _ rfl _ _ 34 rfl w.heap.size 39 i0 _ 2 Trym.underlying34 hi hz0 hz1 _ _ _ _ xs.length rfl rfl rfl rfl (by rw [hz2]; omega) (by unfold maxLen; omega) (Nat.le_refl _) ?_) | go_in)
    intro w0 hrow0 hgr0
    have hnx0 : Below w.heap.size w w0 := (Below.refl _ w).grown hgr0 (Nat.le_refl _) (by simp)
    clear hgr0
    go_wp2
    go_loopw [4] (fun i wr => ∃ k : Nat, ∃ cs, k ≤ xs.length ∧ i = .int .i64 k ∧ wr.ownsRow w.heap.size 39 2 (.slice (some ⟨w.heap.size, 0, none⟩) xs.length xs.length) xs.length cs ∧ cs.take (k * 2) = flat (xs.take k) ∧ Below w.heap.size w wr) (fun i _ => xs.length - (intOf i).toNat)
    case atStart => exact ⟨0, _, Nat.zero_le _, rfl, hrow0, by simp [flat], hnx0⟩
    case round =>
      obtain ⟨k, cs, hk, rfl, hrow, hcs, hnx⟩ := hrel
      by_cases hlt : k < xs.length
      · obtain ⟨b, off, e1, h⟩ := hv (by omega)
        cases e1
        have hcl := hrow.1
        obtain ⟨a, ha⟩ : ∃ a, a = (xs.getD k (0, ByteArray.empty)).1 := ⟨_, rfl⟩
        obtain ⟨s, hs⟩ : ∃ s, s = (xs.getD k (0, ByteArray.empty)).2 := ⟨_, rfl⟩
        have hc0 : wr.cell? ⟨b, off + k * 2, none⟩ = some (.int .i64 a) := by rw [ha]; exact (hnx.cell (by exact h.lt)).trans (h.id k hlt)
        have hc1 : wr.cell? ⟨b, off + k * 2 + 1, none⟩ = some (.string s) := by rw [hs]; exact (hnx.cell (by exact h.lt)).trans (h.err k hlt)
        have hf0 := hrow.frozenAt (k * 2)
        have hf1 := hrow.frozenAt (k * 2 + 1)
        obtain ⟨o0, hd0⟩ : ∃ o, wr.cell? ⟨w.heap.size, k * 2, none⟩ = some o := ⟨_, (hrow.cellAt (k * 2) (by omega)).trans (List.getElem?_eq_getElem (by omega))⟩
        obtain ⟨o1, hd1⟩ : ∃ o, wr.cell? ⟨w.heap.size, k * 2 + 1, none⟩ = some o := ⟨_, (hrow.cellAt (k * 2 + 1) (by omega)).trans (List.getElem?_eq_getElem (by omega))⟩
        have hbne : b ≠ w.heap.size := by have := h.lt; omega
        have R1 := ((hrow.drew.stored (k * 2) (.int .i64 a)).1.stored (k * 2 + 1) (.string s)).1
        have R2 : Hid (((cs.set (k * 2) (.int .i64 a)).set (k * 2 + 1) (.string s)).take ((k + 1) * 2) = flat (xs.take (k + 1))) := by
          show _ = _
          rw [set2 _ _ _ _ (by omega), hcs, take_snoc xs k (0, ByteArray.empty) hlt, flat_snoc, ← ha, ← hs]
        clear ha hs hcs
        go_wp2
        go_region
        have R3 : Below w.heap.size w ((wr.setCell ⟨w.heap.size, k * 2, none⟩ (.int .i64 a)).setCell ⟨w.heap.size, k * 2 + 1, none⟩ (.string s)).drew := ((hnx.setCell (Nat.le_refl _) _).setCell (Nat.le_refl _) _).drew
        clear hc0 hc1 hf0 hf1 hd0 hd1 hrow hnx
        go_wp2
        go_roundw
        case rel => exact ⟨k + 1, _, by omega, by go_num, R1, R2.out, R3⟩
        case measure => simp [intOf]; omega
      · have : k = xs.length := by omega
        subst this
        have hcl := hrow.1
        rw [List.take_length, List.take_of_length_le (by omega)] at hcs
        subst hcs
        go_wp2
        go_ret
        exact ⟨⟨_, _, rfl, hrow⟩, hnx⟩

end Go.Proofs.Qxb6616110aMods
