/-
  expectedLeftOut: how many aggregates held names that settled does not.
-/
import Derived.Test.Qxb6616110aModsLeaf
namespace Go.Proofs.Qxb6616110aMods
open Go.RowKit Go.Maps Go.WideMaps

def names (hs : List (ByteArray × Int)) : List ByteArray := hs.map Prod.fst

theorem names_step {hs : List (ByteArray × Int)} {k : Nat} (h : k < hs.length) : names (hs.take (k + 1)) = names (hs.take k) ++ [(hs.getD k (noStr, 0)).1] := by
  rw [take_snoc hs k (noStr, 0) h, names, List.map_append]; rfl
theorem names_length (hs : List (ByteArray × Int)) : (names hs).length = hs.length := by simp [names]
theorem uniq_new {L : List ByteArray} {s : ByteArray} (h : inB L s = false) : uniq (L ++ [s]) = uniq L ++ [s] := by rw [uniq_snoc, inB_uniq, h, if_neg (by simp)]
theorem uniq_old {L : List ByteArray} {s : ByteArray} (h : inB L s = true) : uniq (L ++ [s]) = uniq L := by rw [uniq_snoc, inB_uniq, h, if_pos rfl]

set_option maxHeartbeats 1000000 in
set_option maxRecDepth 100000 in
theorem expected_any (ao bo : Option Addr) (ca cb : Nat) (xs : List (ByteArray × Int)) (ys : List ByteArray) (w : World) (hv : HeldV w ao xs) (hu : StrsV w bo ys) (hw : WfHeld xs) (hwy : WfStrs ys) (hl : xs.length ≤ 1048576) (hl' : ys.length ≤ 1048576) :
    Calls Trym.prog 27 #[.slice ao xs.length ca, .slice bo ys.length cb] w fun e w' => e = .returned (.int .i64 ((dcount (names xs) : Int) - (rcount (names xs) ys : Int))) ∧ Below w.heap.size w w' := by
  have hmm := fun q n w => run_makeMap_hint (P := Trym.prog) Trym.underlying53 q n w
  go_enter Trym.func27, Trym.ntmps27
  go_wp2
  go_loopw [6, 7] (fun d i wr => ∃ k : Nat, k ≤ xs.length ∧ i = .int .i64 k ∧ d = .int .i64 (dcount (names (xs.take k))) ∧ SetIs wr w.heap.size k (uniq (names (xs.take k))) ∧ Below w.heap.size w wr) (fun _ i _ => xs.length - (intOf i).toNat)
  case atStart => exact ⟨0, Nat.zero_le _, rfl, rfl, SetIs.made _, (Below.refl _ _).alloc (Nat.le_refl _) _⟩
  case round =>
    obtain ⟨k, hk, rfl, rfl, hown, hnx⟩ := hrel
    by_cases hlt : k < xs.length
    · obtain ⟨b, off, rfl, h⟩ := hv (by omega)
      obtain ⟨s, hs⟩ : ∃ s, s = (xs.getD k (noStr, 0)).1 := ⟨_, rfl⟩
      have hc0 : wr.cell? ⟨b, off + k * 2, none⟩ = some (.string s) := by rw [hs]; exact (hnx.cell (by exact h.lt)).trans (h.agg k hlt)
      have hws : s.size ≤ maxLen := by rw [hs]; exact (wfHeld_at hw k).1
      have hlk := hown.look hws
      rw [inB_uniq] at hlk
      have hstep : names (xs.take (k + 1)) = names (xs.take k) ++ [s] := by rw [names_step hlt, hs]
      have hdl : dcount (names (xs.take k)) ≤ k := Nat.le_trans (dcount_le _) (by rw [names_length]; simp; omega)
      cases hin : inB (names (xs.take k)) s
      · obtain ⟨w1, hrun, hown1, hgr1⟩ := hown.add (s := s) (by unfold maxLen; omega) hws
        have R1 : SetIs w1 w.heap.size (k + 1) (uniq (names (xs.take (k + 1)))) := by rw [hstep, uniq_new hin]; exact hown1
        have R2 : Below w.heap.size w w1 := hnx.grown hgr1 hnx.size (fun j hj => by cases hj; exact Nat.le_refl _)
        have R3 : Hid (dcount (names (xs.take (k + 1))) = dcount (names (xs.take k)) + 1) := by show _ = _; rw [hstep]; exact dcount_new _ _ hin
        rw [hin] at hlk
        clear hs hstep hin hown1 hgr1 hown hnx
        go_wp2
        go_roundw
        case rel => exact ⟨k + 1, by omega, by go_num, by rw [R3.out]; go_num, R1, R2⟩
        case measure => simp [intOf]; omega
      · have R1 : SetIs wr w.heap.size (k + 1) (uniq (names (xs.take (k + 1)))) := by rw [hstep, uniq_old hin]; exact hown.mono (Nat.le_succ _)
        have R3 : Hid (dcount (names (xs.take (k + 1))) = dcount (names (xs.take k))) := by show _ = _; rw [hstep]; exact dcount_old _ _ hin
        rw [hin] at hlk
        clear hs hstep hin hown
        go_wp2
        go_roundw
        case rel => exact ⟨k + 1, by omega, by go_num, by rw [R3.out], R1, hnx⟩
        case measure => simp [intOf]; omega
    · have hke : k = xs.length := by omega
      subst hke
      rw [List.take_length] at hown
      have e1 : dcount (names (xs.take xs.length)) = dcount (names xs) := by rw [List.take_length]
      rw [e1]
      clear e1
      have hsz := hnx.size
      have lM := hown.lt
      have hdl : dcount (names xs) ≤ xs.length := Nat.le_trans (dcount_le _) (by rw [names_length]; omega)
      generalize wr = wA at *
      go_wp2
      go_loopw [9, 10] (fun r i w2 => ∃ k : Nat, k ≤ ys.length ∧ i = .int .i64 k ∧ r = .int .i64 (rcount (names xs) (ys.take k)) ∧ SetIs w2 wA.heap.size k (uniq (ys.take k)) ∧ Below wA.heap.size wA w2) (fun _ i _ => ys.length - (intOf i).toNat)
      case atStart => exact ⟨0, Nat.zero_le _, rfl, rfl, SetIs.made _, (Below.refl _ _).alloc (Nat.le_refl _) _⟩
      case round =>
        obtain ⟨k, hk, rfl, rfl, hset, hbr⟩ := hrel
        by_cases hlt2 : k < ys.length
        · obtain ⟨b, off, rfl, h⟩ := hu (by omega)
          obtain ⟨s, hs⟩ : ∃ s, s = ys.getD k noStr := ⟨_, rfl⟩
          have lb : b < wA.heap.size := Nat.lt_of_lt_of_le h.lt hsz
          have hc0 : wr.cell? ⟨b, off + k, none⟩ = some (.string s) := by rw [hs]; exact (hbr.cell (by exact lb)).trans ((hnx.cell (by exact h.lt)).trans (h.at_ k hlt2))
          have hws : s.size ≤ maxLen := by rw [hs]; exact wfStr_at hwy k
          have hlk := hset.look hws
          rw [inB_uniq] at hlk
          have hstep : ys.take (k + 1) = ys.take k ++ [s] := by rw [take_snoc ys k noStr hlt2, hs]
          have hrl : rcount (names xs) (ys.take k) ≤ k := Nat.le_trans (rcount_le _ _) (by simp; omega)
          have hheld := hown.later hbr lM
          cases hin : inB (ys.take k) s
          · obtain ⟨w1, hrun, hset1, hgr1⟩ := hset.add (s := s) (by unfold maxLen; omega) hws
            have hlk2 := (hheld.kept hgr1 (by simp; omega)).look hws
            rw [inB_uniq] at hlk2
            have hc1 : w1.cell? ⟨b, off + k, none⟩ = some (.string s) := (hgr1.cell hc0 (by simp; omega))
            have R1 : SetIs w1 wA.heap.size (k + 1) (uniq (ys.take (k + 1))) := by rw [hstep, uniq_new hin]; exact hset1
            have R2 : Below wA.heap.size wA w1 := hbr.grown hgr1 hbr.size (fun j hj => by cases hj; exact Nat.le_refl _)
            rw [hin] at hlk
            cases hin2 : inB (names xs) s
            · have R3 : Hid (rcount (names xs) (ys.take (k + 1)) = rcount (names xs) (ys.take k)) := by show _ = _; rw [hstep]; exact rcount_out _ _ _ hin hin2
              rw [hin2] at hlk2
              clear hs hstep hin hset1 hgr1 hset hbr hheld hin2
              go_wp2
              go_roundw
              case rel => exact ⟨k + 1, by omega, by go_num, by rw [R3.out], R1, R2⟩
              case measure => simp [intOf]; omega
            · have R3 : Hid (rcount (names xs) (ys.take (k + 1)) = rcount (names xs) (ys.take k) + 1) := by show _ = _; rw [hstep]; exact rcount_in _ _ _ hin hin2
              rw [hin2] at hlk2
              clear hs hstep hin hset1 hgr1 hset hbr hheld hin2
              go_wp2
              go_roundw
              case rel => exact ⟨k + 1, by omega, by go_num, by rw [R3.out]; go_num, R1, R2⟩
              case measure => simp [intOf]; omega
          · have R1 : SetIs wr wA.heap.size (k + 1) (uniq (ys.take (k + 1))) := by rw [hstep, uniq_old hin]; exact hset.mono (Nat.le_succ _)
            have R3 : Hid (rcount (names xs) (ys.take (k + 1)) = rcount (names xs) (ys.take k)) := by show _ = _; rw [hstep]; exact rcount_old _ _ _ hin
            rw [hin] at hlk
            clear hs hstep hin hset hheld
            go_wp2
            go_roundw
            case rel => exact ⟨k + 1, by omega, by go_num, by rw [R3.out], R1, hbr⟩
            case measure => simp [intOf]; omega
        · have hke : k = ys.length := by omega
          subst hke
          have e1 : rcount (names xs) (ys.take ys.length) = rcount (names xs) ys := by rw [List.take_length]
          rw [e1]
          clear e1
          have hrl : rcount (names xs) ys ≤ ys.length := rcount_le _ _
          clear hset hown
          go_wp2
          go_ret
          exact ⟨by first | rfl | simp, hnx.trans (hbr.mono hsz)⟩

end Go.Proofs.Qxb6616110aMods
