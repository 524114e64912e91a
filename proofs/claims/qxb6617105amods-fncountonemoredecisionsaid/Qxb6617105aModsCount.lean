/-
  ZZCount: the three counters behind a count over a list.
-/
import Derived.Test.Qxb6617105aModsBase
namespace Go.Proofs.Qxb6617105aMods
open Go.RowKit

theorem Trym.info28 : (Trym.prog.info? 28).map (fun i => (i.zero, i.size, i.bytes)) = some (some (.string ⟨#[]⟩), 1, 16) := by kernel_rfl
theorem Trym.info9 : (Trym.prog.info? 9).map (fun i => (i.zero, i.size, i.bytes)) = some (some (.string ⟨#[]⟩), 1, 16) := by kernel_rfl

theorem row_strs {w : World} {B n vc : Nat} {e : TypeId} {vo : Option Addr} {ys : List ByteArray} (h : w.ownsRow B e 1 (.slice vo n vc) n (ys.map Value.string)) : StrsV w vo ys := by
  intro hp
  have hl := h.1
  rw [List.length_map] at hl
  rcases h.2 with ⟨_, h0⟩ | ⟨g, cap, cur, e, _, hg, _⟩
  · omega
  · simp only [Value.slice.injEq] at e
    obtain ⟨rfl, _, rfl⟩ := e
    refine ⟨g, 0, rfl, (Array.getElem?_eq_some_iff.1 hg).1, fun j hj => ?_⟩
    rw [Nat.zero_add, h.cellAt j (by omega), List.getElem?_map, List.getD, List.getElem?_eq_getElem hj]
    rfl

set_option maxHeartbeats 1000000 in
set_option maxRecDepth 100000 in
theorem zzCount_any (a s x : Int) (ao : Option Addr) (cap : Nat) (xs : List ByteArray) (w : World) (hv : StrsV w ao xs) (hl : xs.length ≤ 1048576) (ha : (Lit.int .i64 a).wf = true) (hs : (Lit.int .i64 s).wf = true) :
    Calls Trym.prog 6 #[.int .i64 a, .int .i64 s, .int .i64 x, .slice ao xs.length cap] w fun e w' => e = .returned (.tuple #[.int .i64 (up a (cnt xs)), .int .i64 (up s (oth xs)), .int .i64 x]) ∧ Below w.heap.size w w' := by
  obtain ⟨i0, hi, hz0, hz1, hz2⟩ := info_parts Trym.info28
  go_enter Trym.func6, Trym.ntmps6
  go_wp2_with (first | (at_make; refine wpList_make_full _ rfl _ _ 27 rfl w.heap.size 28 i0 _ 1 Trym.underlying27 hi hz0 hz1 _ _ _ _ xs.length rfl rfl rfl rfl (by rw [hz2]; omega) (by unfold maxLen; omega) (Nat.le_refl _) ?_) | go_in)
  intro w0 hrow0 hgr0
  have hnx0 : Below w.heap.size w w0 := (Below.refl _ w).grown hgr0 (Nat.le_refl _) (by simp)
  clear hgr0
  go_wp2
  go_loopw [19] (fun i wr => ∃ k : Nat, ∃ cs, k ≤ xs.length ∧ i = .int .i64 k ∧ wr.ownsRow w.heap.size 28 1 (.slice (some ⟨w.heap.size, 0, none⟩) xs.length xs.length) xs.length cs ∧ cs.take k = (xs.take k).map Value.string ∧ Below w.heap.size w wr) (fun i _ => xs.length - (intOf i).toNat)
  case atStart => exact ⟨0, _, Nat.zero_le _, rfl, hrow0, by simp, hnx0⟩
  case round =>
    obtain ⟨k, cs, hk, rfl, hrow, hcs, hnx⟩ := hrel
    by_cases hlt : k < xs.length
    · obtain ⟨b, off, rfl, h⟩ := hv (by omega)
      have hcl := hrow.1
      obtain ⟨y, hy⟩ : ∃ y, y = xs.getD k noStr := ⟨_, rfl⟩
      have hc1 : wr.cell? ⟨b, off + k, none⟩ = some (.string y) := by rw [hy]; exact (hnx.cell (by exact h.lt)).trans (h.at_ k hlt)
      have hf0 := hrow.frozenAt k
      obtain ⟨o0, hd0⟩ : ∃ o, wr.cell? ⟨w.heap.size, k, none⟩ = some o := ⟨_, (hrow.cellAt k (by omega)).trans (List.getElem?_eq_getElem (by omega))⟩
      have hbne : b ≠ w.heap.size := by have := h.lt; omega
      have R1 := (hrow.stored k (.string y)).1
      have R2 : Hid ((cs.set k (.string y)).take (k + 1) = (xs.take (k + 1)).map Value.string) := by
        show _ = _
        rw [List.take_succ_eq_append_getElem (by simp; omega), List.take_set, List.getElem_set_self, take_snoc xs k noStr hlt, List.map_append, ← hcs, ← hy, List.set_eq_of_length_le (by simp; omega)]
        rfl
      have R3 : Below w.heap.size w (wr.setCell ⟨w.heap.size, k, none⟩ (.string y)) := hnx.setCell (Nat.le_refl _) _
      clear hy hcs hrow hnx
      go_wp2
      go_roundw
      case rel => exact ⟨k + 1, _, by omega, by go_num, R1, R2.out, R3⟩
      case measure => simp [intOf]; omega
    · have : k = xs.length := by omega
      subst this
      have hcl := hrow.1
      rw [List.take_length, List.take_of_length_le (by omega)] at hcs
      subst hcs
      generalize wr = w1 at *
      have hrow2 := hrow.alloc (.cells #[.int .i64 a, .int .i64 s, .int .i64 x] 31)
      have hst := row_strs hrow2
      have gb : (w1.alloc (.cells #[.int .i64 a, .int .i64 s, .int .i64 x] 31)).heap[w1.heap.size]? = some (.cells #[.int .i64 a, .int .i64 s, .int .i64 x] 31 (0, 0)) := heap_alloc_new w1 _
      have hb2 : Below w.heap.size w (w1.alloc (.cells #[.int .i64 a, .int .i64 s, .int .i64 x] 31)) := hnx.alloc hnx.size _
      have l1 : w.heap.size < w1.heap.size := (hrow.lt _ rfl).2
      clear hrow hrow2 hrow0
      go_wp2_with fail
      generalize w1.alloc (.cells #[.int .i64 a, .int .i64 s, .int .i64 x] 31) = w2 at *
      refine (count_any w1.heap.size _ _ xs a s x w2 hst hl (fun b off e => by cases e; omega) ha hs (by simp [World.cell?, gb]) (by simp [World.cell?, gb]) (by simp [World.cell?, gb]) (by simp [World.frozen?, gb]) (by simp [World.frozen?, gb])).mono ?_
      rintro e w3 ⟨rfl, hcd⟩
      have hb3 : Below w.heap.size w w3 := hb2.grown hcd.kept hb2.size (fun k hk => by cases hk; omega)
      have c0 := hcd.c0
      have c1 := hcd.c1
      have c2 := hcd.c2
      clear hcd gb hb2 hst hnx
      go_wp2_with fail
      go_region
      go_wp2
      go_ret3
      exact ⟨rfl, hb3.drew⟩

end Go.Proofs.Qxb6617105aMods
