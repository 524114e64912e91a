/-
  The leaf contracts of the laws on leftOut: bounds, sets, clones, the held map, the expected number.
-/
import Derived.Test.Qxb6616110aModsStrs
namespace Go.Proofs.Qxb6616110aMods
open Go.RowKit Go.Maps Go.WideMaps

set_option maxHeartbeats 1000000 in
theorem zzBytes24_any (ao bo : Option Addr) (ca cb : Nat) (xs : List (ByteArray × Int)) (ys : List ByteArray) (w : World) (hv : HeldV w ao xs) (hu : StrsV w bo ys) (hl : xs.length ≤ 9223372036854775807) (hl' : ys.length ≤ 9223372036854775807) :
    Calls Trym.prog 24 #[.slice ao xs.length ca, .slice bo ys.length cb] w fun e w' => BoolThen (xs.length ≤ 1048576 ∧ ys.length ≤ 1048576) e ∧ w = w' := by
  go_enter Trym.func24, Trym.ntmps24
  go_wp2
  · go_ret
    exact ⟨⟨_, rfl, by simp⟩, rfl⟩
  · go_loop [5, 6] (fun t i => ∃ k m : Nat, k ≤ xs.length ∧ m ≤ 1048576 ∧ i = .int .i64 k ∧ t = .int .i64 m) (fun _ i => xs.length - (intOf i).toNat)
    case atStart => exact ⟨0, xs.length, Nat.zero_le _, by omega, rfl, rfl⟩
    case round =>
      obtain ⟨k, m, hk, hm, rfl, rfl⟩ := hrel
      by_cases hlt : k < xs.length
      · obtain ⟨b, off, rfl, h⟩ := hv (by omega)
        have hc := h.agg k hlt
        go_wp2
        · go_ret
          exact ⟨⟨_, rfl, by simp⟩, rfl⟩
        · go_ret
          exact ⟨⟨_, rfl, by simp⟩, rfl⟩
        · go_round
          case rel => exact ⟨k + 1, m + xs[k].1.size, by omega, by omega, by go_num, by go_num⟩
          case measure => simp [intOf]; omega
      · go_wp2
        · go_ret
          exact ⟨⟨_, rfl, by simp⟩, rfl⟩
        · go_ret
          exact ⟨⟨_, rfl, by simp⟩, rfl⟩
        · go_loop [5, 7] (fun t i => ∃ k m : Nat, k ≤ ys.length ∧ m ≤ 1048576 ∧ i = .int .i64 k ∧ t = .int .i64 m) (fun _ i => ys.length - (intOf i).toNat)
          case atStart => exact ⟨0, m + ys.length, Nat.zero_le _, by omega, rfl, by go_num⟩
          case round =>
            obtain ⟨k2, m2, hk2, hm2, rfl, rfl⟩ := hrel
            by_cases hlt2 : k2 < ys.length
            · obtain ⟨b, off, rfl, h⟩ := hu (by omega)
              have hc := h.at_ k2 hlt2
              go_wp2
              · go_ret
                exact ⟨⟨_, rfl, by simp⟩, rfl⟩
              · go_ret
                exact ⟨⟨_, rfl, by simp⟩, rfl⟩
              · go_round
                case rel => exact ⟨k2 + 1, m2 + ys[k2].size, by omega, by omega, by go_num, by go_num⟩
                case measure => simp [intOf]; omega
            · go_wp2
              go_ret
              exact ⟨⟨_, rfl, fun _ => ⟨by omega, by omega⟩⟩, rfl⟩

set_option maxHeartbeats 400000 in
theorem heldBytes_any (ao : Option Addr) (cap : Nat) (xs : List (ByteArray × Int)) (n : Int) (w : World) (hv : HeldV w ao xs) (hl : xs.length ≤ 1048576) :
    Calls Trym.prog 25 #[.slice ao xs.length cap, .int .i64 n] w fun e w' => (∃ r, e = .returned (.int .i64 r)) ∧ w = w' := by
  go_enter Trym.func25, Trym.ntmps25
  go_wp2
  · go_ret
    exact ⟨⟨_, rfl⟩, rfl⟩
  · go_loop [1, 5] (fun t i => ∃ k : Nat, ∃ m : Int, k ≤ xs.length ∧ i = .int .i64 k ∧ t = .int .i64 m) (fun _ i => xs.length - (intOf i).toNat)
    case atStart => exact ⟨0, n, Nat.zero_le _, rfl, rfl⟩
    case round =>
      obtain ⟨k, m, hk, rfl, rfl⟩ := hrel
      by_cases hlt : k < xs.length
      · obtain ⟨b, off, rfl, h⟩ := hv (by omega)
        have hc := h.agg k hlt
        go_wp2
        · go_ret
          exact ⟨⟨_, rfl⟩, rfl⟩
        · go_ret
          exact ⟨⟨_, rfl⟩, rfl⟩
        · go_round
          case rel => exact ⟨k + 1, _, by omega, by go_num, rfl⟩
          case measure => simp [intOf]; omega
      · go_wp2
        go_ret
        exact ⟨⟨_, rfl⟩, rfl⟩

set_option maxHeartbeats 400000 in
theorem stringsBytes_any (ao : Option Addr) (cap : Nat) (xs : List ByteArray) (n : Int) (w : World) (hv : StrsV w ao xs) (hl : xs.length ≤ 1048576) :
    Calls Trym.prog 20 #[.slice ao xs.length cap, .int .i64 n] w fun e w' => (∃ r, e = .returned (.int .i64 r)) ∧ w = w' := by
  go_enter Trym.func20, Trym.ntmps20
  go_wp2
  · go_ret
    exact ⟨⟨_, rfl⟩, rfl⟩
  · go_loop [1, 5] (fun t i => ∃ k : Nat, ∃ m : Int, k ≤ xs.length ∧ i = .int .i64 k ∧ t = .int .i64 m) (fun _ i => xs.length - (intOf i).toNat)
    case atStart => exact ⟨0, n, Nat.zero_le _, rfl, rfl⟩
    case round =>
      obtain ⟨k, m, hk, rfl, rfl⟩ := hrel
      by_cases hlt : k < xs.length
      · obtain ⟨b, off, rfl, h⟩ := hv (by omega)
        have hc := h.at_ k hlt
        go_wp2
        · go_ret
          exact ⟨⟨_, rfl⟩, rfl⟩
        · go_ret
          exact ⟨⟨_, rfl⟩, rfl⟩
        · go_round
          case rel => exact ⟨k + 1, _, by omega, by go_num, rfl⟩
          case measure => simp [intOf]; omega
      · go_wp2
        go_ret
        exact ⟨⟨_, rfl⟩, rfl⟩

set_option maxHeartbeats 400000 in
theorem setOf_any (ao : Option Addr) (cap : Nat) (xs : List ByteArray) (w : World) (hv : StrsV w ao xs) (hw : WfStrs xs) (hl : xs.length ≤ 1048576) :
    Calls Trym.prog 28 #[.slice ao xs.length cap] w fun e w' => e = .returned (.map (some w.heap.size)) ∧ SetIs w' w.heap.size xs.length xs ∧ Below w.heap.size w w' := by
  have hmm := fun q n w => run_makeMap_hint (P := Trym.prog) Trym.underlying53 q n w
  go_enter Trym.func28, Trym.ntmps28
  go_wp2
  go_loopw [4] (fun i wr => ∃ k : Nat, k ≤ xs.length ∧ i = .int .i64 k ∧ SetIs wr w.heap.size k (xs.take k) ∧ Below w.heap.size w wr) (fun i _ => xs.length - (intOf i).toNat)
  case atStart => exact ⟨0, Nat.zero_le _, rfl, SetIs.made _, (Below.refl _ _).alloc (Nat.le_refl _) _⟩
  case round =>
    obtain ⟨k, hk, rfl, hown, hnx⟩ := hrel
    by_cases hlt : k < xs.length
    · obtain ⟨b, off, rfl, h⟩ := hv (by omega)
      obtain ⟨s, hs⟩ : ∃ s, s = xs.getD k noStr := ⟨_, rfl⟩
      have hc0 : wr.cell? ⟨b, off + k, none⟩ = some (.string s) := by rw [hs]; exact (hnx.cell (by exact h.lt)).trans (h.at_ k hlt)
      obtain ⟨w1, hrun, hown1, hgr1⟩ := hown.add (s := s) (by unfold maxLen; omega) (by rw [hs]; exact wfStr_at hw k)
      have hown2 : SetIs w1 w.heap.size (k + 1) (xs.take (k + 1)) := by rw [take_snoc xs k noStr hlt, ← hs]; exact hown1
      have hnx2 : Below w.heap.size w w1 := hnx.grown hgr1 hnx.size (fun j hj => by cases hj; exact Nat.le_refl _)
      clear hs hown1 hgr1
      go_wp2
      go_roundw
      case rel => exact ⟨k + 1, by omega, by go_num, hown2, hnx2⟩
      case measure => simp [intOf]; omega
    · have : k = xs.length := by omega
      subst this
      rw [List.take_length] at hown
      go_wp2
      go_ret
      exact ⟨rfl, hown, hnx⟩

/-- What heldMap hands back. -/
def HeldMap (w : World) (hs : List (ByteArray × Int)) (m : Option Nat) : Prop := (m = none ∧ hs = []) ∨ ∃ b, m = some b ∧ w.ownsMap Trym.prog 9 (plainElem (H := Unit) Trym.prog 3) b 1048576 (Hd hs)
def HeldRet (base : Nat) (hs : List (ByteArray × Int)) (e : Ending) (w : World) : Prop := ∃ m, e = .returned (.map m) ∧ HeldMap w hs m ∧ ∀ b, m = some b → base ≤ b

set_option maxHeartbeats 400000 in
set_option maxRecDepth 100000 in
theorem heldMap_any (ao : Option Addr) (cap : Nat) (xs : List (ByteArray × Int)) (w : World) (hv : HeldV w ao xs) (hw : WfHeld xs) (hl : xs.length ≤ 1048576) :
    Calls Trym.prog 33 #[.slice ao xs.length cap] w fun e w' => HeldRet w.heap.size xs e w' ∧ Below w.heap.size w w' := by
  have hmm := fun q n w => run_makeMap_hint (P := Trym.prog) Trym.underlying61 q n w
  cases ao with
  | none =>
    have h0 : xs = [] := by
      cases xs with
      | nil => rfl
      | cons x r => obtain ⟨b, off, h, _⟩ := hv (by simp); cases h
    subst h0
    have hq := fun w => Lib.run_eql_slice_nil (P := Trym.prog) w 48 55 none 0 cap 0 0 Trym.underlying48
    go_enter Trym.func33, Trym.ntmps33
    go_wp2
    go_ret
    exact ⟨⟨none, rfl, Or.inl ⟨rfl, rfl⟩, by simp⟩, Below.refl _ _⟩
  | some ad =>
    have hq := fun w => Lib.run_eql_slice_nil (P := Trym.prog) w 48 55 (some ad) xs.length cap 0 0 Trym.underlying48
    go_enter Trym.func33, Trym.ntmps33
    go_wp2
    go_loopw [4] (fun i wr => ∃ k : Nat, k ≤ xs.length ∧ i = .int .i64 k ∧ wr.ownsMap Trym.prog 9 (plainElem (H := Unit) Trym.prog 3) w.heap.size k (Hd (xs.take k)) ∧ Below w.heap.size w wr) (fun i _ => xs.length - (intOf i).toNat)
    case atStart => exact ⟨0, Nat.zero_le _, rfl, World.ownsMap_made _ _ _ _, (Below.refl _ _).alloc (Nat.le_refl _) _⟩
    case round =>
      obtain ⟨k, hk, rfl, hown, hnx⟩ := hrel
      by_cases hlt : k < xs.length
      · obtain ⟨b, off, e1, h⟩ := hv (by omega)
        cases e1
        obtain ⟨s, hs⟩ : ∃ s, s = (xs.getD k (noStr, 0)).1 := ⟨_, rfl⟩
        obtain ⟨a, ha⟩ : ∃ a, a = (xs.getD k (noStr, 0)).2 := ⟨_, rfl⟩
        have hc0 : wr.cell? ⟨b, off + k * 2, none⟩ = some (.string s) := by rw [hs]; exact (hnx.cell (by exact h.lt)).trans (h.agg k hlt)
        have hc1 : wr.cell? ⟨b, off + k * 2 + 1, none⟩ = some (.int .i64 a) := by rw [ha]; exact (hnx.cell (by exact h.lt)).trans (h.shard k hlt)
        have hwk := wfHeld_at hw k
        rw [← hs, ← ha] at hwk
        obtain ⟨w1, hrun, hown1, hgr1⟩ := hown.drew.update law9 Trym.underlying61 (by unfold maxLen; omega) (keyOf_string_mk Trym.underlying9 hwk.1) (plainElem_int Trym.underlying3 hwk.2)
        have hown2 : w1.ownsMap Trym.prog 9 (plainElem (H := Unit) Trym.prog 3) w.heap.size (k + 1) (Hd (xs.take (k + 1))) := by rw [take_snoc xs k (noStr, 0) hlt, Hd_snoc, ← hs, ← ha]; exact hown1
        have hnx2 : Below w.heap.size w w1 := hnx.drew.grown hgr1 hnx.size (fun j hj => by cases hj; exact Nat.le_refl _)
        clear hs ha hown1 hgr1 hown hnx hwk
        go_wp2
        go_region
        go_wp2
        go_roundw
        case rel => exact ⟨k + 1, by omega, by go_num, hown2, hnx2⟩
        case measure => simp [intOf]; omega
      · have : k = xs.length := by omega
        subst this
        rw [List.take_length] at hown
        go_wp2
        go_ret
        exact ⟨⟨_, rfl, Or.inr ⟨_, rfl, hown.mono hl⟩, fun b hb => by cases hb; exact Nat.le_refl _⟩, hnx⟩

theorem Trym.info9 : (Trym.prog.info? 9).map (fun i => (i.zero, i.size, i.bytes)) = some (some (.string ⟨#[]⟩), 1, 16) := by kernel_rfl

set_option maxHeartbeats 400000 in
set_option maxRecDepth 100000 in
theorem cloneStrings_any (ao : Option Addr) (cap : Nat) (xs : List ByteArray) (w : World) (hv : StrsV w ao xs) (hl : xs.length ≤ 1048576) :
    Calls Trym.prog 21 #[.slice ao xs.length cap] w fun e w' => RowOf w.heap.size 9 1 xs.length (xs.map Value.string) e w' ∧ Below w.heap.size w w' := by
  obtain ⟨i0, hi, hz0, hz1, hz2⟩ := info_parts Trym.info9
  cases ao with
  | none =>
    have h0 : xs = [] := by
      cases xs with
      | nil => rfl
      | cons x r => obtain ⟨b, off, h, _⟩ := hv (by simp); cases h
    subst h0
    have hq := fun w => Lib.run_eql_slice_nil (P := Trym.prog) w 42 9 none 0 cap 0 0 Trym.underlying42
    go_enter Trym.func21, Trym.ntmps21
    go_wp2
    go_ret
    exact ⟨⟨none, 0, rfl, World.ownsRow_nil _ _ _ _⟩, Below.refl _ _⟩
  | some ad =>
    have hq := fun w => Lib.run_eql_slice_nil (P := Trym.prog) w 42 9 (some ad) xs.length cap 0 0 Trym.underlying42
    go_enter Trym.func21, Trym.ntmps21
    go_wp2_with (first | (at_make; refine wpList_make_full _ rfl _ _ 42 rfl w.heap.size 9 i0 _ 1 Trym.underlying42 hi hz0 hz1 _ _ _ _ xs.length rfl rfl rfl rfl (by rw [hz2]; omega) (by unfold maxLen; omega) (Nat.le_refl _) ?_) | go_in)
    intro w0 hrow0 hgr0
    have hnx0 : Below w.heap.size w w0 := (Below.refl _ w).grown hgr0 (Nat.le_refl _) (by simp)
    clear hgr0
    go_wp2
    go_loopw [4] (fun i wr => ∃ k : Nat, ∃ cs, k ≤ xs.length ∧ i = .int .i64 k ∧ wr.ownsRow w.heap.size 9 1 (.slice (some ⟨w.heap.size, 0, none⟩) xs.length xs.length) xs.length cs ∧ cs.take k = (xs.take k).map Value.string ∧ Below w.heap.size w wr) (fun i _ => xs.length - (intOf i).toNat)
    case atStart => exact ⟨0, _, Nat.zero_le _, rfl, hrow0, by simp, hnx0⟩
    case round =>
      obtain ⟨k, cs, hk, rfl, hrow, hcs, hnx⟩ := hrel
      by_cases hlt : k < xs.length
      · obtain ⟨b, off, e1, h⟩ := hv (by omega)
        cases e1
        have hcl := hrow.1
        obtain ⟨s, hs⟩ : ∃ s, s = xs.getD k noStr := ⟨_, rfl⟩
        have hc1 : wr.cell? ⟨b, off + k, none⟩ = some (.string s) := by rw [hs]; exact (hnx.cell (by exact h.lt)).trans (h.at_ k hlt)
        have hf0 := hrow.frozenAt k
        obtain ⟨o0, hd0⟩ : ∃ o, wr.cell? ⟨w.heap.size, k, none⟩ = some o := ⟨_, (hrow.cellAt k (by omega)).trans (List.getElem?_eq_getElem (by omega))⟩
        have hbne : b ≠ w.heap.size := by have := h.lt; omega
        have R1 := (hrow.stored k (.string s)).1
        have R2 : Hid ((cs.set k (.string s)).take (k + 1) = (xs.take (k + 1)).map Value.string) := by
          show _ = _
          rw [List.take_succ_eq_append_getElem (by simp; omega), List.take_set, List.getElem_set_self, take_snoc xs k noStr hlt, List.map_append, ← hcs, ← hs, List.set_eq_of_length_le (by simp; omega)]
          rfl
        have R3 : Below w.heap.size w (wr.setCell ⟨w.heap.size, k, none⟩ (.string s)) := hnx.setCell (Nat.le_refl _) _
        clear hs hcs hrow hnx
        go_wp2
        go_roundw
        case rel => exact ⟨k + 1, _, by omega, by go_num, R1, R2.out, R3⟩
        case measure => simp [intOf]; omega
      · have : k = xs.length := by omega
        subst this
        have hcl := hrow.1
        rw [List.take_length, List.take_of_length_le (by omega)] at hcs
        subst hcs
        go_wp2
        go_ret
        exact ⟨⟨_, _, rfl, hrow⟩, hnx⟩

end Go.Proofs.Qxb6616110aMods
