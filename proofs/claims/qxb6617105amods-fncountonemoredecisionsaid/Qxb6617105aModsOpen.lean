/-
  A []string that came in, as the walks see it.
-/
import Derived.Test.Qxb6617105aModsBase
import Derived.ProofKit
import Derived.OpenShut
import Derived.ShutString
import Derived.ChangeOld
import Derived.Deep.Strs
namespace Go.Proofs.Qxb6617105aMods
open Go.ChangeShapes Go.WideShapes Go.ChangeAt Go.RowKit Go.Deep

theorem own : ownKnob Trym.prog.godebug = none := by kernel_rfl
theorem laidOut : laidOutB Trym.prog = true := by kernel_rfl
theorem Trym.cells9 : Trym.prog.cellsOf 9 = 1 := by kernel_rfl

theorem open_list {H : Type} {enc : TypeId × Value → H} {W : World} {a0 : Option Addr} {len cap : Nat} {d : DataW H} {p : List MemPlace}
    (h : DataW.Trod enc Trym.prog W 0 (fun _ => true) true 22 (.slice a0 len cap) d p) : ∃ xs : List ByteArray, len = xs.length ∧ StrsV W a0 xs ∧ xs.length ≤ cap ∧ cap ≤ 9223372036854775807 := by
  obtain ⟨fuel, hf⟩ := h
  rcases open_strs Trym.underlying22 Trym.underlying9 Trym.cells9 hf with ⟨hcs, _⟩ | ⟨a, l, c, m, Sx, hcs, _, hl, hm, hmm, _, hx⟩
  · simp [Value.cells] at hcs
    obtain ⟨rfl, rfl, rfl⟩ := hcs
    exact ⟨[], rfl, fun h => by simp at h, by simp, by simp⟩
  · simp [Value.cells] at hcs
    obtain ⟨rfl, rfl, rfl⟩ := hcs
    have hlm : len ≤ m := by rw [hmm]; split <;> omega
    have hlen : ((List.range len).map Sx).length = len := by simp
    have hget : ∀ j, j < len → ((List.range len).map Sx).getD j noStr = Sx j := fun j hj => by simp [List.getD, hj]
    refine ⟨(List.range len).map Sx, hlen.symm, fun hp => ?_, ?_, ?_⟩
    · rw [hlen] at hp
      obtain ⟨b, off, spot⟩ := a
      have g0 := (hx 0 (by omega)).1
      have hspot : spot = none := by simpa [Addr.add] using World.cell?_spot g0
      subst hspot
      refine ⟨b, off, rfl, ?_, fun j hj => ?_⟩
      · exact World.block_lt_of_cell? W _ g0
      · rw [hlen] at hj
        have := (hx j (by omega)).1
        rw [hget j hj]
        simpa [Addr.add_lit] using this
    · rw [hlen]; exact hl
    · unfold maxLen at hm
      omega

end Go.Proofs.Qxb6617105aMods
