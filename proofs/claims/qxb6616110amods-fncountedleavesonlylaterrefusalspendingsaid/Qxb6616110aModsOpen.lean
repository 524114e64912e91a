import Derived.Test.Qxb6616110aModsBase
import Derived.ProofKit
import Derived.OpenShut
import Derived.ShutString
import Derived.ChangeOld
import Derived.Below
import Derived.Deep.SlicePairs
namespace Go.Proofs.Qxb6616110aMods
open Go.ChangeShapes Go.WideShapes Go.ChangeAt Go.RowKit Go.Deep

theorem own : ownKnob Trym.prog.godebug = none := by kernel_rfl
theorem laidOut : laidOutB Trym.prog = true := by kernel_rfl
theorem Trym.cells28 : Trym.prog.cellsOf 28 = 2 := by kernel_rfl
theorem Trym.cells2 : Trym.prog.cellsOf 2 = 1 := by kernel_rfl
theorem Trym.cells9 : Trym.prog.cellsOf 9 = 1 := by kernel_rfl

/-- A []Fail that came in, as the walk sees it. -/
theorem open_fails {H : Type} {enc : TypeId × Value → H} {W : World} {a0 : Option Addr} {len cap : Nat} {d : DataW H} {p : List MemPlace}
    (h : DataW.Trod enc Trym.prog W 0 (fun _ => true) true 22 (.slice a0 len cap) d p) : ∃ xs : List (Int × ByteArray), len = xs.length ∧ FailsV W a0 xs ∧ WfIds xs ∧ xs.length ≤ 9223372036854775807 := by
  obtain ⟨fuel, hf⟩ := h
  rcases open_slice_pairs Trym.underlying22 Trym.underlying28 Trym.cells28 rfl rfl Trym.cells2 Trym.cells9 hf with ⟨hcs, _⟩ | ⟨a, l, c, m, n, V0, V1, D0, D1, P0, P1, hcs, _, hl, hm, hmm, _, hx⟩
  · simp [Value.cells] at hcs
    obtain ⟨rfl, rfl, rfl⟩ := hcs
    exact ⟨[], rfl, fun h => by simp at h, fun x hx => by simp at hx, by simp⟩
  · simp [Value.cells] at hcs
    obtain ⟨rfl, rfl, rfl⟩ := hcs
    have hlm : len ≤ m := by rw [hmm]; split <;> omega
    have each : ∀ i, i < len → ∃ x : Int × ByteArray, V0 i = .int .i64 x.1 ∧ V1 i = .string x.2 ∧ (Lit.int .i64 x.1).wf = true := fun i hi => by
      obtain ⟨_, _, t0, t1⟩ := hx i (by omega)
      obtain ⟨b, e0, _, hw⟩ := DataW.trod_int Trym.underlying2 t0
      obtain ⟨s, e1, _, _⟩ := DataW.trod_string Trym.underlying9 t1
      exact ⟨(b, s), by simpa using e0, by simpa using e1, hw⟩
    obtain ⟨q, hq⟩ := choose_lt each
    have hlen : ((List.range len).map q).length = len := by simp
    have hget : ∀ j, j < len → ((List.range len).map q).getD j (0, ByteArray.empty) = q j := fun j hj => by simp [List.getD, hj]
    refine ⟨(List.range len).map q, hlen.symm, fun hp => ?_, fun x hx' => ?_, ?_⟩
    · rw [hlen] at hp
      obtain ⟨b, off, spot⟩ := a
      have g0 := (hx 0 (by omega)).1
      have hspot : spot = none := by simpa [Addr.add] using World.cell?_spot g0
      subst hspot
      refine ⟨b, off, rfl, ?_, fun j hj => ?_, fun j hj => ?_⟩
      · exact World.block_lt_of_cell? W _ g0
      · rw [hlen] at hj
        have := (hx j (by omega)).1
        rw [hget j hj, ← (hq j hj).1]
        simpa [Addr.add_lit] using this
      · rw [hlen] at hj
        have := (hx j (by omega)).2.1
        rw [hget j hj, ← (hq j hj).2.1]
        simpa [Addr.add_lit, Nat.add_assoc] using this
    · obtain ⟨i, hi, rfl⟩ := List.mem_map.1 hx'
      exact (hq i (List.mem_range.1 hi)).2.2
    · rw [hlen]
      unfold maxLen at hm
      omega

end Go.Proofs.Qxb6616110aMods
