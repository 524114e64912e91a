/-
  A []Held, a []string that came in, as the walks see them.
-/
import Derived.Test.Qxb6616110aModsStrs
import Derived.Test.Qxb6616110aModsOpen
import Derived.Deep.Strs
namespace Go.Proofs.Qxb6616110aMods
open Go.ChangeShapes Go.WideShapes Go.ChangeAt Go.RowKit Go.Deep

theorem Trym.cells55 : Trym.prog.cellsOf 55 = 2 := by kernel_rfl
theorem Trym.cells3 : Trym.prog.cellsOf 3 = 1 := by kernel_rfl

theorem open_held {H : Type} {enc : TypeId × Value → H} {W : World} {a0 : Option Addr} {len cap : Nat} {d : DataW H} {p : List MemPlace}
    (h : DataW.Trod enc Trym.prog W 0 (fun _ => true) true 48 (.slice a0 len cap) d p) : ∃ xs : List (ByteArray × Int), len = xs.length ∧ HeldV W a0 xs ∧ WfHeld xs ∧ xs.length ≤ 9223372036854775807 := by
  obtain ⟨fuel, hf⟩ := h
  rcases open_slice_pairs Trym.underlying48 Trym.underlying55 Trym.cells55 rfl rfl Trym.cells9 Trym.cells3 hf with ⟨hcs, _⟩ | ⟨a, l, c, m, n, V0, V1, D0, D1, P0, P1, hcs, _, hl, hm, hmm, _, hx⟩
  · simp [Value.cells] at hcs
    obtain ⟨rfl, rfl, rfl⟩ := hcs
    exact ⟨[], rfl, fun h => by simp at h, fun x hx => by simp at hx, by simp⟩
  · simp [Value.cells] at hcs
    obtain ⟨rfl, rfl, rfl⟩ := hcs
    have hlm : len ≤ m := by rw [hmm]; split <;> omega
    have each : ∀ i, i < len → ∃ x : ByteArray × Int, V0 i = .string x.1 ∧ V1 i = .int .i64 x.2 ∧ x.1.size ≤ maxLen ∧ (Lit.int .i64 x.2).wf = true := fun i hi => by
      obtain ⟨_, _, t0, t1⟩ := hx i (by omega)
      obtain ⟨s, e0, _, hs⟩ := DataW.trod_string Trym.underlying9 t0
      obtain ⟨b, e1, _, hw⟩ := DataW.trod_int Trym.underlying3 t1
      exact ⟨(s, b), by simpa using e0, by simpa using e1, hs, hw⟩
    obtain ⟨q, hq⟩ := choose_lt each
    have hlen : ((List.range len).map q).length = len := by simp
    have hget : ∀ j, j < len → ((List.range len).map q).getD j (noStr, 0) = q j := fun j hj => by simp [List.getD, hj]
    refine ⟨(List.range len).map q, hlen.symm, fun hp => ?_, fun x hx' => ?_, ?_⟩
    · rw [hlen] at hp
      obtain ⟨b, off, spot⟩ := a
      have g0 := (hx 0 (by omega)).1
      have hspot : spot = none := by simpa [Addr.add] using World.cell?_spot g0
      subst hspot
      refine ⟨b, off, rfl, ?_, fun j hj => ?_, fun j hj => ?_⟩
      · exact World.block_lt_of_cell? W _ g0
      · rw [hlen] at hj
        have := (hx j (by omega)).1
        rw [hget j hj, ← (hq j hj).1]
        simpa [Addr.add_lit] using this
      · rw [hlen] at hj
        have := (hx j (by omega)).2.1
        rw [hget j hj, ← (hq j hj).2.1]
        simpa [Addr.add_lit, Nat.add_assoc] using this
    · obtain ⟨i, hi, rfl⟩ := List.mem_map.1 hx'
      exact (hq i (List.mem_range.1 hi)).2.2
    · rw [hlen]
      unfold maxLen at hm
      omega

theorem open_strs' {H : Type} {enc : TypeId × Value → H} {W : World} {a0 : Option Addr} {len cap : Nat} {d : DataW H} {p : List MemPlace}
    (h : DataW.Trod enc Trym.prog W 0 (fun _ => true) true 42 (.slice a0 len cap) d p) : ∃ xs : List ByteArray, len = xs.length ∧ StrsV W a0 xs ∧ WfStrs xs ∧ xs.length ≤ cap ∧ cap ≤ 9223372036854775807 := by
  obtain ⟨fuel, hf⟩ := h
  rcases open_strs Trym.underlying42 Trym.underlying9 Trym.cells9 hf with ⟨hcs, _⟩ | ⟨a, l, c, m, Sx, hcs, _, hl, hm, hmm, _, hx⟩
  · simp [Value.cells] at hcs
    obtain ⟨rfl, rfl, rfl⟩ := hcs
    exact ⟨[], rfl, fun h => by simp at h, fun x hx => by simp at hx, by simp, by simp⟩
  · simp [Value.cells] at hcs
    obtain ⟨rfl, rfl, rfl⟩ := hcs
    have hlm : len ≤ m := by rw [hmm]; split <;> omega
    have hlen : ((List.range len).map Sx).length = len := by simp
    have hget : ∀ j, j < len → ((List.range len).map Sx).getD j noStr = Sx j := fun j hj => by simp [List.getD, hj]
    refine ⟨(List.range len).map Sx, hlen.symm, fun hp => ?_, fun x hx' => ?_, ?_, ?_⟩
    · rw [hlen] at hp
      obtain ⟨b, off, spot⟩ := a
      have g0 := (hx 0 (by omega)).1
      have hspot : spot = none := by simpa [Addr.add] using World.cell?_spot g0
      subst hspot
      refine ⟨b, off, rfl, ?_, fun j hj => ?_⟩
      · exact World.block_lt_of_cell? W _ g0
      · rw [hlen] at hj
        have := (hx j (by omega)).1
        rw [hget j hj]
        simpa [Addr.add_lit] using this
    · obtain ⟨i, hi, rfl⟩ := List.mem_map.1 hx'
      exact (hx i (by have := List.mem_range.1 hi; omega)).2
    · rw [hlen]; exact hl
    · unfold maxLen at hm
      omega

end Go.Proofs.Qxb6616110aMods
