/-
  The walks of the two laws on millis.
-/
import Derived.Test.Qxb6605937aModsMillis
namespace Go.Proofs.Qxb6605937aMods
open Go.RowKit

set_option maxHeartbeats 400000 in
theorem law3 (d : Int) (w : World) (h0 : -9223372036854775808 ≤ d) (h1 : d ≤ 9223372036854775807) :
    Calls Trym.prog 3 #[.int .i64 d] w fun e w' => e = .returned (.bool true) ∧ w = w' := by
  by_cases hn : d < 0
  · go_enter Trym.func3, Trym.ntmps3
    go_wp2
    go_ret
    exact ⟨rfl, rfl⟩
  · have hz := zzmillis_any d w h0 h1
    by_cases he : d = 0
    · subst he
      rw [mil_zero] at hz
      go_enter Trym.func3, Trym.ntmps3
      go_wp2_with fail
      refine hz.mono ?_
      clear hz
      rintro e w' ⟨rfl, rfl⟩
      go_wp2
      go_ret
      exact ⟨rfl, rfl⟩
    · have hp : 0 < d := by omega
      obtain ⟨c1, c2, c3, c4⟩ := mil_covers hp h1
      have hq : (d == 0) = false := by simpa using he
      generalize mil d = m at *
      clear he hn
      go_enter Trym.func3, Trym.ntmps3
      go_wp2_with fail
      refine hz.mono ?_
      clear hz
      rintro e w' ⟨rfl, rfl⟩
      go_wp2
      go_ret
      exact ⟨rfl, rfl⟩

set_option maxHeartbeats 400000 in
theorem law4 (d : Int) (w : World) (h0 : -9223372036854775808 ≤ d) (h1 : d ≤ 9223372036854775807) :
    Calls Trym.prog 4 #[.int .i64 d] w fun e w' => e = .returned (.bool true) ∧ w = w' := by
  have hz := zzmillis_any d w h0 h1
  by_cases he : d = -9223372036854775808
  · subst he
    rw [mil_least] at hz
    clear h0 h1
    go_enter Trym.func4, Trym.ntmps4
    go_wp2_with fail
    refine hz.mono ?_
    clear hz
    rintro e w' ⟨rfl, rfl⟩
    go_wp2
    go_ret
    exact ⟨rfl, rfl⟩
  · have hn : -9223372036854775807 ≤ d := by omega
    have hy := zzmillis_any (-d) w (by omega) (by omega)
    have hq : (d == -9223372036854775808) = false := by simpa using he
    have b1 := mil_bounds h0 h1
    have b2 := mil_bounds (d := -d) (by omega) (by omega)
    have hs := mil_sum (d := d)
    clear he h0
    by_cases ht : d.tmod 1000000 = 0
    · rw [if_pos ht] at hs
      have hr : (d.tmod 1000000 == 0) = true := by simpa using ht
      generalize mil d = m at *
      generalize mil (-d) = n at *
      have hv : (m + n == 0) = true := by simpa using hs
      clear hs ht
      go_enter Trym.func4, Trym.ntmps4
      go_wp2_with fail
      refine hz.mono ?_
      clear hz
      rintro e w' ⟨rfl, rfl⟩
      go_wp2_with fail
      refine hy.mono ?_
      clear hy
      rintro e w' ⟨rfl, rfl⟩
      go_wp2
      go_ret
      exact ⟨rfl, rfl⟩
    · rw [if_neg ht] at hs
      have hr : (d.tmod 1000000 == 0) = false := by simpa using ht
      generalize mil d = m at *
      generalize mil (-d) = n at *
      have hv : (m + n == 2) = true := by simpa using hs
      clear hs ht
      go_enter Trym.func4, Trym.ntmps4
      go_wp2_with fail
      refine hz.mono ?_
      clear hz
      rintro e w' ⟨rfl, rfl⟩
      go_wp2_with fail
      refine hy.mono ?_
      clear hy
      rintro e w' ⟨rfl, rfl⟩
      go_wp2
      go_ret
      exact ⟨rfl, rfl⟩

end Go.Proofs.Qxb6605937aMods
