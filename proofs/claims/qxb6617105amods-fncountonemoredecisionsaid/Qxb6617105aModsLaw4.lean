/-
  The walk of FnCountOneMoreDecision.
-/
import Derived.Test.Qxb6617105aModsLaw3
import Derived.Maps.AppendAt
namespace Go.Proofs.Qxb6617105aMods
open Go.RowKit

/-- The list with one more decision in it. -/
def more (ys : List ByteArray) (c : Nat) (x : ByteArray) : List ByteArray := ys.take c ++ x :: ys.drop c
theorem more_length {ys : List ByteArray} {c : Nat} (h : c ≤ ys.length) (x : ByteArray) : (more ys c x).length = ys.length + 1 := by simp [more]; omega
theorem more_head {ys : List ByteArray} {c : Nat} (h : c ≤ ys.length) (x : ByteArray) : ys.take c ++ [x] = (more ys c x).take (c + 1) := by
  have hl : (ys.take c).length = c := by simp; omega
  unfold more
  rw [List.take_append, hl, List.take_of_length_le (l := ys.take c) (by omega), show c + 1 - c = 1 by omega]
  rfl
theorem more_at {ys : List ByteArray} {c k : Nat} (h : c ≤ k) (hk : k < ys.length) (x : ByteArray) : (more ys c x).take (k + 1 + 1) = (more ys c x).take (k + 1) ++ [ys.getD k noStr] := by
  rw [take_snoc (more ys c x) (k + 1) noStr (by rw [more_length (by omega)]; omega)]
  congr 2
  unfold more
  rw [List.getD, List.getD, List.getElem?_append_right (by simp; omega)]
  have e : k + 1 - (ys.take c).length = (k - c) + 1 := by simp; omega
  rw [e, List.getElem?_cons_succ, List.getElem?_drop]
  congr 2
  omega
theorem cnt_more (ys : List ByteArray) (c : Nat) (x : ByteArray) : cnt (more ys c x) = cnt ys + cnt [x] := by
  unfold more
  rw [cnt_append, show x :: ys.drop c = [x] ++ ys.drop c from rfl, cnt_append]
  have := cnt_append (ys.take c) (ys.drop c)
  rw [List.take_append_drop] at this
  omega
theorem oth_more (ys : List ByteArray) (c : Nat) (x : ByteArray) : oth (more ys c x) = oth ys + oth [x] := by
  unfold more
  rw [oth_append, show x :: ys.drop c = [x] ++ ys.drop c from rfl, oth_append]
  have := oth_append (ys.take c) (ys.drop c)
  rw [List.take_append_drop] at this
  omega
theorem up_sum (a s : Int) (j k : Nat) : wrap64 (up a j + up s k) = wrap64 (wrap64 (a + s) + ((j + k : Nat) : Int)) := by
  unfold up wrap64
  omega

set_option maxHeartbeats 4000000 in
set_option maxRecDepth 100000 in
theorem law4 (a s x : Int) (ao : Option Addr) (cap : Nat) (ys : List ByteArray) (cut : Int) (ex : ByteArray) (w : World) (hv : StrsV w ao ys) (hcap : ys.length ≤ cap) (hcm : cap ≤ 9223372036854775807) (hex : ex.size ≤ 9223372036854775807) (ha : (Lit.int .i64 a).wf = true) (hs : (Lit.int .i64 s).wf = true) :
    Calls Trym.prog 4 #[.int .i64 a, .int .i64 s, .int .i64 x, .slice ao ys.length cap, .int .i64 cut, .string ex] w fun e w' => e = .returned (.bool true) ∧ Below w.heap.size w w' := by
  obtain ⟨i0, hi, hz0, hz1, hz2⟩ := info_parts Trym.info9
  have hnil := fun w => run_neq_slice_nil_any (P := Trym.prog) w 22 9 ao ys.length cap 0 0 Trym.underlying22
  go_enter Trym.func4, Trym.ntmps4
  go_wp2_with fail
  refine (zzBytes7_any a s x cut ao cap ys ex w hv (by omega) hex).mono ?_
  rintro e w' ⟨⟨r, rfl, hr⟩, rfl⟩
  cases r
  · go_wp2
    go_ret
    exact ⟨rfl, Below.refl _ _⟩
  have hl := hr rfl
  clear hr
  by_cases hbig : (65536 : Int) ≤ (ys.length : Int)
  · go_wp2
    go_ret
    exact ⟨rfl, Below.refl _ _⟩
  have hB : decide ((65536 : Int) ≤ (ys.length : Int)) = false := by simpa using hbig
  have HN : Hid (ys.length + 1 ≤ 1048576) := by show _ ≤ _; omega
  clear hbig
  by_cases hxb : (1048576 : Int) < (ex.size : Int)
  · go_wp2
    go_ret
    exact ⟨rfl, Below.refl _ _⟩
  go_upto_if 42 with fail
  go_cut [3] (fun d wx => ∃ bo' cb', d = .slice bo' ys.length cb' ∧ StrsV wx bo' ys ∧ ys.length ≤ cb' ∧ cb' ≤ 9223372036854775807 ∧ Below w.heap.size w wx)
  case first =>
    cases ao with
    | none =>
      go_wp2_with fail
      go_meet
      exact ⟨_, _, rfl, hv, hcap, hcm, Below.refl _ _⟩
    | some ad =>
      go_wp2_with (first
        | (at_make; refine wpList_make_full _ rfl _ _ 22 rfl w.heap.size 9 i0 _ 1 Trym.underlying22 hi hz0 hz1 _ _ _ _ ys.length rfl rfl rfl rfl (by rw [hz2]; omega) (by unfold maxLen; omega) (Nat.le_refl _) ?_; intro w0 hrow0 hgr0; obtain ⟨w1, hrun, hst1, hB1⟩ := copy_run (cap := cap) hv ((Below.refl _ w).grown hgr0 (Nat.le_refl _) (by simp)) (Nat.le_refl _) (by unfold maxLen; omega) hrow0; clear hrow0 hgr0))
      go_meet
      exact ⟨_, _, rfl, hst1, Nat.le_refl _, by omega, hB1⟩
  case rest =>
    obtain ⟨bo, cb, rfl, hst, hcb, hcbm, hb1⟩ := hcut
    generalize wc = w1 at *
    clear hv hnil hcap hcm
    have hxl : (ex.size : Int) ≤ 1048576 := by omega
    clear hxb
    go_wp2_with fail
    go_loopw [14, 15] (fun t i wr => ∃ k : Nat, ∃ m : Int, k ≤ ys.length ∧ i = .int .i64 k ∧ t = .int .i64 m ∧ w1 = wr) (fun _ i _ => ys.length - (intOf i).toNat)
    case atStart => exact ⟨0, _, Nat.zero_le _, rfl, rfl, rfl⟩
    case round =>
      obtain ⟨k, m, hk, rfl, rfl, rfl⟩ := hrel
      by_cases hlt : k < ys.length
      · obtain ⟨b, off, rfl, h⟩ := hst (by omega)
        have hc := h.at_ k hlt
        go_wp2
        · go_ret
          exact ⟨rfl, hb1⟩
        · go_roundw
          case rel => exact ⟨k + 1, _, by omega, by go_num, rfl, by first | rfl | trivial⟩
          case measure => simp [intOf]; omega
      · by_cases hcut : 0 ≤ cut ∧ cut ≤ (ys.length : Int)
        · obtain ⟨c, rfl⟩ : ∃ c : Nat, cut = (c : Int) := ⟨cut.toNat, by omega⟩
          have hc : c ≤ ys.length := by omega
          have hcI : (c : Int) ≤ (ys.length : Int) := hcut.2
          clear hcut
          go_wp2_with (first
            | (at_make; refine wpList_make_own _ rfl _ _ 22 rfl w1.heap.size 9 i0 _ 1 Trym.underlying22 hi hz0 hz1 _ _ _ (ys.length + 1) rfl rfl (by omega) (by rw [hz2]; omega) (by unfold maxLen; omega) (Nat.le_refl _) ?_; intro w2 hrow2 hgr2))
          have hst2 := hst.later (Nat.le_refl _) ((Below.refl w1.heap.size w1).grown hgr2 (Nat.le_refl _) (by simp))
          have hb12 : Below w1.heap.size w1 w2 := (Below.refl _ w1).grown hgr2 (Nat.le_refl _) (by simp)
          clear hgr2 hB
          go_wp2_with fail
          go_loopw [17, 18] (fun v i wr => ∃ k : Nat, k ≤ c ∧ i = .int .i64 k ∧ v = .slice (some ⟨w1.heap.size, 0, none⟩) k (ys.length + 1) ∧ wr.ownsRow w1.heap.size 9 1 (.slice (some ⟨w1.heap.size, 0, none⟩) k (ys.length + 1)) k ((ys.take k).map Value.string) ∧ Below w1.heap.size w1 wr) (fun _ i _ => c - (intOf i).toNat)
          case atStart => exact ⟨0, Nat.zero_le _, rfl, rfl, hrow2, hb12⟩
          case round =>
            obtain ⟨k, hk, rfl, rfl, hrow, hbr⟩ := hrel
            have lM : w1.heap.size < wr.heap.size := (hrow.lt _ rfl).2
            by_cases hlt : k < c
            · obtain ⟨b, off, rfl, h⟩ := hst (by omega)
              obtain ⟨y, hy⟩ : ∃ y, y = ys.getD k noStr := ⟨_, rfl⟩
              have hcy := (hbr.cell (p := ⟨b, off + k, none⟩) (by exact h.lt)).trans (h.at_ k (by omega))
              rw [← hy] at hcy
              have hstep : ys.take (k + 1) = ys.take k ++ [y] := by rw [take_snoc ys k noStr (by omega), hy]
              have HS : Hid ((ys.take (k + 1)).map Value.string = (ys.take k).map Value.string ++ [.string y]) := by show _ = _; rw [hstep, List.map_append]; rfl
              have hkI : (k : Int) < (c : Int) := by omega
              have hkn : (k : Int) < (ys.length : Int) := by omega
              clear hy hstep
              go_wp2_with (first
                | (at_builtin; refine wpList_append_fits _ rfl _ _ 22 rfl w1.heap.size 9 i0 1 Trym.underlying22 hi hz1 w1.heap.size k (ys.length + 1) _ rfl (hrow.alloc _) ⟨wr.heap.size, 0, none⟩ 1 1 [.string y] rfl rfl (cell_one_new _ _ _) (by simp [Value.oneCell']) (by omega) ?_; intro w3 hown3 hg3))
              have R1 : w3.ownsRow w1.heap.size 9 1 (.slice (some ⟨w1.heap.size, 0, none⟩) (k + 1) (ys.length + 1)) (k + 1) ((ys.take (k + 1)).map Value.string) := by rw [HS.out]; exact hown3
              have R2 : Below w1.heap.size w1 w3 := (hbr.alloc (by omega) (.cells #[.string y] 9)).grown hg3 (by simp; omega) (fun j hj => by cases hj; exact Nat.le_refl _)
              clear hown3 hg3 HS hrow
              go_wp2
              go_roundw
              case rel => exact ⟨k + 1, by omega, by go_num, rfl, R1, R2⟩
              case measure => simp [intOf]; omega
            · have hke : k = c := by omega
              subst hke
              have lw := hbr.size
              have HE : Hid ((ys.take k).map Value.string ++ [.string ex] = ((more ys k ex).take (k + 1)).map Value.string) := by show _ = _; rw [← more_head hc, List.map_append]; rfl
              go_wp2_with (first
                | (at_builtin; refine wpList_append_fits _ rfl _ _ 22 rfl w1.heap.size 9 i0 1 Trym.underlying22 hi hz1 w1.heap.size k (ys.length + 1) _ rfl (hrow.alloc _) ⟨wr.heap.size, 0, none⟩ 1 1 [.string ex] rfl rfl (cell_one_new _ _ _) (by simp [Value.oneCell']) (by omega) ?_; intro w3 hown3 hg3))
              generalize hcc : k = c at *
              have R1 : w3.ownsRow w1.heap.size 9 1 (.slice (some ⟨w1.heap.size, 0, none⟩) (c + 1) (ys.length + 1)) (c + 1) (((more ys c ex).take (c + 1)).map Value.string) := by rw [← HE.out]; exact hown3
              have R2 : Below w1.heap.size w1 w3 := (hbr.alloc (by omega) (.cells #[.string ex] 9)).grown hg3 (by simp; omega) (fun j hj => by cases hj; exact Nat.le_refl _)
              clear hown3 hg3 HE hrow hbr hlt hk hcc lM lw hst2 hb12 hrow2
              go_loopw [17, 19] (fun v i wr => ∃ k : Nat, c ≤ k ∧ k ≤ ys.length ∧ i = .int .i64 k ∧ v = .slice (some ⟨w1.heap.size, 0, none⟩) (k + 1) (ys.length + 1) ∧ wr.ownsRow w1.heap.size 9 1 (.slice (some ⟨w1.heap.size, 0, none⟩) (k + 1) (ys.length + 1)) (k + 1) (((more ys c ex).take (k + 1)).map Value.string) ∧ Below w1.heap.size w1 wr) (fun _ i _ => ys.length - (intOf i).toNat)
              case atStart => exact ⟨c, Nat.le_refl _, hc, rfl, rfl, R1, R2⟩
              case round =>
                clear R1 R2
                obtain ⟨k, hck, hk, rfl, rfl, hrow, hbr⟩ := hrel
                have lM : w1.heap.size < wr.heap.size := (hrow.lt _ rfl).2
                by_cases hlt : k < ys.length
                · obtain ⟨b, off, rfl, h⟩ := hst (by omega)
                  have hstep := more_at (x := ex) hck hlt
                  obtain ⟨y, hy⟩ : ∃ y, y = ys.getD k noStr := ⟨_, rfl⟩
                  have hcy := (hbr.cell (p := ⟨b, off + k, none⟩) (by exact h.lt)).trans (h.at_ k (by omega))
                  rw [← hy] at hcy hstep
                  have HS : Hid (((more ys c ex).take (k + 1 + 1)).map Value.string = ((more ys c ex).take (k + 1)).map Value.string ++ [.string y]) := by show _ = _; rw [hstep, List.map_append]; rfl
                  have hkn : (k : Int) < (ys.length : Int) := by omega
                  clear hy hstep
                  go_wp2_with (first
                    | (at_builtin; refine wpList_append_fits _ rfl _ _ 22 rfl w1.heap.size 9 i0 1 Trym.underlying22 hi hz1 w1.heap.size (k + 1) (ys.length + 1) _ rfl (hrow.alloc _) ⟨wr.heap.size, 0, none⟩ 1 1 [.string y] rfl rfl (cell_one_new _ _ _) (by simp [Value.oneCell']) (by omega) ?_; intro w4 hown4 hg4))
                  have R1 : w4.ownsRow w1.heap.size 9 1 (.slice (some ⟨w1.heap.size, 0, none⟩) (k + 1 + 1) (ys.length + 1)) (k + 1 + 1) (((more ys c ex).take (k + 1 + 1)).map Value.string) := by rw [HS.out]; exact hown4
                  have R2 : Below w1.heap.size w1 w4 := (hbr.alloc (by omega) (.cells #[.string y] 9)).grown hg4 (by simp; omega) (fun j hj => by cases hj; exact Nat.le_refl _)
                  clear hown4 hg4 HS hrow
                  go_wp2
                  go_roundw
                  case rel => exact ⟨k + 1, by omega, by omega, by go_num, rfl, R1, R2⟩
                  case measure => simp [intOf]; omega
                · have hke : k = ys.length := by omega
                  subst hke
                  have hml := more_length hc ex
                  have hrow5 : wr.ownsRow w1.heap.size 9 1 (.slice (some ⟨w1.heap.size, 0, none⟩) (ys.length + 1) (ys.length + 1)) (ys.length + 1) ((more ys c ex).map Value.string) := by
                    rw [List.take_of_length_le (by omega)] at hrow; exact hrow
                  have hst5 := row_strs hrow5
                  generalize wr = w5 at *
                  have hs5 := hst.later (Nat.le_refl _) hbr
                  have hb05 := hb1.trans (hbr.mono hb1.size)
                  clear hrow hrow5 hst hbr hb1
                  go_wp2_with fail
                  refine (zzCount_any a s x bo cb ys w5 hs5 hl ha hs).mono ?_
                  rintro e w6 ⟨rfl, hb6⟩
                  have c2 := zzCount_any a s x (some ⟨w1.heap.size, 0, none⟩) (ys.length + 1) (more ys c ex) w6 (hst5.later (Nat.le_refl _) hb6) (by rw [hml]; exact HN.out) ha hs
                  rw [hml, cnt_more, oth_more] at c2
                  go_wp2_with fail
                  refine c2.mono ?_
                  clear c2
                  rintro e w7 ⟨rfl, hb7⟩
                  have hb07 := hb05.trans ((hb6.trans (hb7.mono hb6.size)).mono hb05.size)
                  have q3 : (wrap64 (up a (cnt ys) + up s (oth ys)) == wrap64 (wrap64 (a + s) + (ys.length : Int))) = true := by
                    rw [up_sum, cnt_oth]; simp
                  clear hst5 hs5 hb05 hb6 hb7 hml
                  cases hA : isA ex
                  · have hb : (ex.toList == [97, 112, 112, 108, 105, 101, 100]) = false := hA
                    obtain ⟨e1, e2⟩ := cnt_no hA
                    rw [e1, e2, Nat.add_zero]
                    have q1 : (up s (oth ys + 1) == wrap64 (up s (oth ys) + 1)) = true := by rw [up_succ]; simp
                    clear e1 e2 hA
                    go_wp2
                    go_ret
                    exact ⟨by first | rfl | simp, hb07⟩
                  · have hb : (ex.toList == [97, 112, 112, 108, 105, 101, 100]) = true := hA
                    obtain ⟨e1, e2⟩ := cnt_yes hA
                    rw [e1, e2, Nat.add_zero]
                    have q1 : (up a (cnt ys + 1) == wrap64 (up a (cnt ys) + 1)) = true := by rw [up_succ]; simp
                    clear e1 e2 hA
                    go_wp2
                    go_ret
                    exact ⟨by first | rfl | simp, hb07⟩
        · by_cases h0 : 0 ≤ cut
          · have h1 : (ys.length : Int) < cut := by omega
            clear hcut
            go_wp2
            go_ret
            exact ⟨rfl, hb1⟩
          · have h1 : cut < 0 := by omega
            clear hcut h0
            go_wp2
            go_ret
            exact ⟨rfl, hb1⟩

end Go.Proofs.Qxb6617105aMods
