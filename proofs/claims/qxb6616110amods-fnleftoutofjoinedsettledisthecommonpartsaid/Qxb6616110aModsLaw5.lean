/-
  The walk of FnLeftOutIsHeldLessSettled.
-/
import Derived.Test.Qxb6616110aModsLeftOut
namespace Go.Proofs.Qxb6616110aMods
open Go.RowKit Go.Maps Go.WideMaps

theorem nodup_at {L : List ByteArray} (h : L.Nodup) {k : Nat} (hk : k < L.length) : inB (L.take k) (L.getD k noStr) = false := by
  refine inB_false fun hm => ?_
  rw [List.getD, List.getElem?_eq_getElem hk, Option.getD_some] at hm
  obtain ⟨j, hj, e⟩ := List.getElem_of_mem hm
  rw [List.getElem_take] at e
  have hj' : j < k := by simp at hj; omega
  exact absurd ((List.getElem_inj h).1 e) (by omega)
theorem mem_at {L : List ByteArray} {k : Nat} (hk : k < L.length) : L.getD k noStr ∈ L := by
  rw [List.getD, List.getElem?_eq_getElem hk]
  exact List.getElem_mem hk
theorem wf_names {xs : List (ByteArray × Int)} (hw : WfHeld xs) {s : ByteArray} (h : s ∈ names xs) : s.size ≤ maxLen := by
  obtain ⟨x, hx, rfl⟩ := List.mem_map.1 h
  exact (hw x hx).1
theorem leftOut_wf {xs : List (ByteArray × Int)} {S out : List ByteArray} (hw : WfHeld xs) (h : LeftOut (names xs) S out) : WfStrs out := fun x hx => wf_names hw ((h.2 x).1 hx).1
theorem leftOut_le {xs : List (ByteArray × Int)} {S out : List ByteArray} (h : LeftOut (names xs) S out) : out.length ≤ xs.length := by
  have := leftOut_length h
  have := dcount_le (names xs)
  rw [names_length] at this
  omega

set_option maxHeartbeats 1000000 in
set_option maxRecDepth 100000 in
theorem law5 (ao bo : Option Addr) (ca cb : Nat) (xs : List (ByteArray × Int)) (ys : List ByteArray) (w : World) (hv : HeldV w ao xs) (hu : StrsV w bo ys) (hw : WfHeld xs) (hwy : WfStrs ys) (hl : xs.length ≤ 9223372036854775807) (hl' : ys.length ≤ 9223372036854775807) :
    Calls Trym.prog 5 #[.slice ao xs.length ca, .slice bo ys.length cb] w fun e w' => e = .returned (.bool true) ∧ Below w.heap.size w w' := by
  have hmm := fun q n w => run_makeMap_hint (P := Trym.prog) Trym.underlying53 q n w
  go_enter Trym.func5, Trym.ntmps5
  go_wp2_with fail
  refine (zzBytes24_any ao bo ca cb xs ys w hv hu hl hl').mono ?_
  rintro e w' ⟨⟨r, rfl, hr⟩, rfl⟩
  cases r
  · go_wp2
    go_ret
    exact ⟨rfl, Below.refl _ _⟩
  obtain ⟨hlx, hly⟩ := hr rfl
  clear hl hl' hr
  go_wp2_with fail
  refine (heldBytes_any ao ca xs 0 _ hv hlx).mono ?_
  rintro e w' ⟨⟨n1, rfl⟩, rfl⟩
  go_wp2_with fail
  · go_ret
    exact ⟨rfl, Below.refl _ _⟩
  refine (stringsBytes_any bo cb ys n1 _ hu hly).mono ?_
  rintro e w' ⟨⟨n2, rfl⟩, rfl⟩
  go_wp2_with fail
  · go_ret
    exact ⟨rfl, Below.refl _ _⟩
  refine (leftOutOf_any ao bo ca cb xs ys w hv hu hw hwy hlx hly).mono ?_
  rintro e w1 ⟨⟨out, ⟨vo, vc, rfl, hrow⟩, hlo⟩, hb1⟩
  have hlen := leftOut_length hlo
  have hole := leftOut_le hlo
  have hwo := leftOut_wf hw hlo
  have hv1 := hv.later (Nat.le_refl _) hb1
  have hu1 := hu.later (Nat.le_refl _) hb1
  have ho1 := row_strs hrow
  have hsz1 := hb1.size
  clear hrow
  go_wp2_with fail
  refine (expected_any ao bo ca cb xs ys w1 hv1 hu1 hw hwy hlx hly).mono ?_
  rintro e w2 ⟨rfl, hb2⟩
  have hexp : ((dcount (names xs) : Int) - (rcount (names xs) ys : Int)) = (out.length : Int) := by omega
  rw [hexp]
  clear hexp hlen
  have hb02 := hb1.trans (hb2.mono hsz1)
  have hv2 := hv.later (Nat.le_refl _) hb02
  have hu2 := hu.later (Nat.le_refl _) hb02
  have ho2 := ho1.later (Nat.le_refl _) hb2
  clear hv hu hv1 hu1 ho1 hb1 hb2 hsz1
  go_wp2_with fail
  go_loopw [8] (fun i wr => ∃ k : Nat, k ≤ xs.length ∧ i = .int .i64 k ∧ SetIs wr w2.heap.size k (names (xs.take k)) ∧ Below w2.heap.size w2 wr) (fun i _ => xs.length - (intOf i).toNat)
  case atStart => exact ⟨0, Nat.zero_le _, rfl, SetIs.made _, (Below.refl _ _).alloc (Nat.le_refl _) _⟩
  case round =>
    obtain ⟨k, hk, rfl, hown, hnx⟩ := hrel
    by_cases hlt : k < xs.length
    · obtain ⟨b, off, rfl, h⟩ := hv2 (by omega)
      obtain ⟨s, hs⟩ : ∃ s, s = (xs.getD k (noStr, 0)).1 := ⟨_, rfl⟩
      have hc0 : wr.cell? ⟨b, off + k * 2, none⟩ = some (.string s) := by rw [hs]; exact (hnx.cell (by exact h.lt)).trans (h.agg k hlt)
      obtain ⟨w3, hrun, hown1, hgr1⟩ := hown.add (s := s) (by unfold maxLen; omega) (by rw [hs]; exact (wfHeld_at hw k).1)
      have R1 : SetIs w3 w2.heap.size (k + 1) (names (xs.take (k + 1))) := by rw [names_step hlt, ← hs]; exact hown1
      have R2 : Below w2.heap.size w2 w3 := hnx.grown hgr1 hnx.size (fun j hj => by cases hj; exact Nat.le_refl _)
      clear hs hown1 hgr1 hown hnx
      go_wp2
      go_roundw
      case rel => exact ⟨k + 1, by omega, by go_num, R1, R2⟩
      case measure => simp [intOf]; omega
    · have hke : k = xs.length := by omega
      subst hke
      rw [List.take_length] at hown
      generalize wr = w3 at *
      have hsz3 := hnx.size
      have lH := hown.lt
      have hu3 := hu2.later (Nat.le_refl _) hnx
      have ho3 := ho2.later (Nat.le_refl _) hnx
      have hb03 := hb02.trans (hnx.mono hb02.size)
      clear hv2 hu2 ho2 hnx hb02
      go_wp2_with fail
      refine (setOf_any bo cb ys w3 hu3 hwy hly).mono ?_
      rintro e w4 ⟨rfl, hrel4, hb4⟩
      have hheld4 := hown.later hb4 lH
      have ho4 := ho3.later (Nat.le_refl _) hb4
      have hb04 := hb03.trans (hb4.mono hb03.size)
      have lR := hrel4.lt
      have hsz4 := hb4.size
      clear hu3 ho3 hb03 hb4 hown
      go_wp2_with fail
      go_loopw [11] (fun i wr => ∃ k : Nat, k ≤ out.length ∧ i = .int .i64 k ∧ SetIs wr w4.heap.size k (out.take k) ∧ Below w4.heap.size w4 wr) (fun i _ => out.length - (intOf i).toNat)
      case atStart => exact ⟨0, Nat.zero_le _, rfl, SetIs.made _, (Below.refl _ _).alloc (Nat.le_refl _) _⟩
      case round =>
        obtain ⟨k, hk, rfl, hseen, hbr⟩ := hrel
        by_cases hlt2 : k < out.length
        · obtain ⟨b, off, rfl, h⟩ := ho4 (by omega)
          have n1 := nodup_at hlo.1 hlt2
          have n2 := mem_at hlt2
          obtain ⟨s, hs⟩ : ∃ s, s = out.getD k noStr := ⟨_, rfl⟩
          have hc0 : wr.cell? ⟨b, off + k, none⟩ = some (.string s) := by rw [hs]; exact (hbr.cell (by exact h.lt)).trans (h.at_ k hlt2)
          have hws : s.size ≤ maxLen := by rw [hs]; exact wfStr_at hwo k
          have hstep : out.take (k + 1) = out.take k ++ [s] := by rw [take_snoc out k noStr hlt2, hs]
          rw [← hs] at n1 n2
          have l1 := hseen.look hws
          have l2 := (hheld4.later hbr (by omega)).look hws
          have l3 := (hrel4.later hbr lR).look hws
          rw [n1] at l1
          rw [inB_true ((hlo.2 s).1 n2).1] at l2
          rw [inB_false ((hlo.2 s).1 n2).2] at l3
          obtain ⟨w5, hrun, hseen5, hgr5⟩ := hseen.add (s := s) (by unfold maxLen; omega) hws
          have R1 : SetIs w5 w4.heap.size (k + 1) (out.take (k + 1)) := by rw [hstep]; exact hseen5
          have R2 : Below w4.heap.size w4 w5 := hbr.grown hgr5 hbr.size (fun j hj => by cases hj; exact Nat.le_refl _)
          clear hs n1 n2 hstep hseen5 hgr5 hseen hbr hheld4 hrel4
          go_wp2
          go_roundw
          case rel => exact ⟨k + 1, by omega, by go_num, R1, R2⟩
          case measure => simp [intOf]; omega
        · clear hseen hheld4 hrel4
          go_wp2
          go_ret
          exact ⟨rfl, hb04.trans (hbr.mono hb04.size)⟩

end Go.Proofs.Qxb6616110aMods
