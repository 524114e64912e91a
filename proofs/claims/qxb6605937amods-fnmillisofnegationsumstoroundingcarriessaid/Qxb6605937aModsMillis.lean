/-
  millis, ZZmillis, and the plain numbers beneath the two laws on them.
-/
import Derived.Test.Qxb6605937aModsRows
import Derived.WalkKit
import Derived.WalkSpells
import Derived.WalkLawsBesides
namespace Go.Proofs.Qxb6605937aMods
open Go.RowKit

/-- What millis gives. -/
def mil (d : Int) : Int := if d.tmod 1000000 = 0 then d.tdiv 1000000 else d.tdiv 1000000 + 1

theorem mil_pos {d : Int} (h : 0 ≤ d) : mil d = if d % 1000000 = 0 then d / 1000000 else d / 1000000 + 1 := by
  unfold mil
  rw [Int.tmod_eq_emod_of_nonneg h, Int.tdiv_eq_ediv_of_nonneg h]
theorem mil_neg {d : Int} (h : 0 ≤ d) : mil (-d) = if d % 1000000 = 0 then -(d / 1000000) else -(d / 1000000) + 1 := by
  unfold mil
  rw [Int.neg_tmod, Int.neg_tdiv, Int.tmod_eq_emod_of_nonneg h, Int.tdiv_eq_ediv_of_nonneg h]
  by_cases e : d % 1000000 = 0
  · rw [if_pos e, if_pos (by omega)]
  · rw [if_neg e, if_neg (by omega)]

theorem mil_covers {d : Int} (h : 0 < d) (h1 : d ≤ 9223372036854775807) : 1 ≤ mil d ∧ mil d ≤ 9223372036855 ∧ d ≤ mil d * 1000000 ∧ (mil d - 1) * 1000000 < d := by
  rw [mil_pos (by omega)]
  by_cases e : d % 1000000 = 0
  · rw [if_pos e]; omega
  · rw [if_neg e]; omega
theorem mil_zero : mil 0 = 0 := by rw [mil_pos (by omega)]; rfl
theorem mil_least : mil (-9223372036854775808) = -9223372036853 := by
  rw [mil_neg (by omega)]
  rw [if_neg (by omega)]
  omega
theorem mil_sum {d : Int} : mil d + mil (-d) = if d.tmod 1000000 = 0 then 0 else 2 := by
  by_cases h : 0 ≤ d
  · rw [mil_pos h, mil_neg h, Int.tmod_eq_emod_of_nonneg h]
    by_cases e : d % 1000000 = 0
    · rw [if_pos e, if_pos e, if_pos e]; omega
    · rw [if_neg e, if_neg e, if_neg e]; omega
  · obtain ⟨k, rfl⟩ : ∃ k, d = -k := ⟨-d, by omega⟩
    have hk : 0 ≤ k := by omega
    rw [Int.neg_neg, mil_pos hk, mil_neg hk, Int.neg_tmod, Int.tmod_eq_emod_of_nonneg hk]
    by_cases e : k % 1000000 = 0
    · rw [if_pos e, if_pos e, if_pos (by omega)]; omega
    · rw [if_neg e, if_neg e, if_neg (by omega)]; omega
theorem mil_bounds {d : Int} (h0 : -9223372036854775808 ≤ d) (h1 : d ≤ 9223372036854775807) : -9223372036854 ≤ mil d ∧ mil d ≤ 9223372036855 := by
  by_cases h : 0 ≤ d
  · rw [mil_pos h]; split <;> omega
  · obtain ⟨k, rfl⟩ : ∃ k, d = -k := ⟨-d, by omega⟩
    rw [mil_neg (by omega)]; split <;> omega

set_option maxHeartbeats 400000 in
theorem millis_any (d : Int) (w : World) (h0 : -9223372036854775808 ≤ d) (h1 : d ≤ 9223372036854775807) :
    Calls Trym.prog 6 #[.int .i64 d] w fun e w' => e = .returned (.int .i64 (mil d)) ∧ w = w' := by
  have hb := mil_bounds h0 h1
  by_cases h : d.tmod 1000000 = 0
  · have hm : mil d = d.tdiv 1000000 := by unfold mil; rw [if_pos h]
    have hq : (d.tmod 1000000 != 0) = false := by simp [h]
    rw [hm]
    clear h hm hb
    go_enter Trym.func6, Trym.ntmps6
    go_wp2
    go_ret
    exact ⟨rfl, rfl⟩
  · have hm : mil d = d.tdiv 1000000 + 1 := by unfold mil; rw [if_neg h]
    have hq : (d.tmod 1000000 != 0) = true := by simp [h]
    rw [hm] at hb ⊢
    have he : Hid (wrap64 (d.tdiv 1000000 + 1) = d.tdiv 1000000 + 1) := by show _ = _; unfold wrap64; omega
    clear h hm
    go_enter Trym.func6, Trym.ntmps6
    go_wp2
    go_ret
    exact ⟨by first | rfl | (show Ending.returned (.int .i64 (wrap64 (d.tdiv 1000000 + 1))) = _; rw [he.out]), rfl⟩

set_option maxHeartbeats 400000 in
theorem zzmillis_any (d : Int) (w : World) (h0 : -9223372036854775808 ≤ d) (h1 : d ≤ 9223372036854775807) :
    Calls Trym.prog 5 #[.int .i64 d] w fun e w' => e = .returned (.int .i64 (mil d)) ∧ w = w' := by
  go_enter Trym.func5, Trym.ntmps5
  go_wp2_with fail
  refine (millis_any d _ h0 h1).mono ?_
  rintro e w' ⟨rfl, rfl⟩
  go_wp2
  go_ret
  exact ⟨rfl, rfl⟩

end Go.Proofs.Qxb6605937aMods
