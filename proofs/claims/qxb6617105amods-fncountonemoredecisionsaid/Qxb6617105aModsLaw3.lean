/-
  The walk of FnCountSplitsAtAnyCut.
-/
import Derived.Test.Qxb6617105aModsCount
import Derived.Deep.DeepCutAuto
namespace Go.Proofs.Qxb6617105aMods
open Go.RowKit

theorem elem22 : Trym.prog.elem 22 = 9 := by kernel_rfl
theorem under22 : Trym.prog.underlying 22 = some (.slice (Trym.prog.elem 22)) := by rw [elem22]; exact Trym.underlying22
theorem size9 (w : World) : (sizeOf 9).run Trym.prog w = .ok 1 w := by kernel_rfl
theorem one9 : (Trym.prog.info? 9).map (·.size) = some 1 := by kernel_rfl

/-- 's[:c]'. -/
theorem slice_head (w0 : World) (bo : Option Addr) (ys : List ByteArray) (cb c : Nat) (hu : StrsV w0 bo ys) (hc : c ≤ ys.length) (hcap : ys.length ≤ cb) :
    ∃ ba, StrsV w0 ba (ys.take c) ∧ ∀ w, (Instr.slice 22 (.slice bo ys.length cb) none (some (.int .i64 (c : Int))) none).run Trym.prog w = .ok (.slice ba c cb) w := by
  refine ⟨if cb = 0 then bo else bo.map (·.add (0 * 1)), fun hp => ?_, fun w => ?_⟩
  · have hlt : 0 < c := by simp at hp; omega
    obtain ⟨b, off, rfl, h⟩ := hu (by omega)
    rw [if_neg (by omega)]
    refine ⟨b, off, by simp [Addr.add_lit], h.lt, fun j hj => ?_⟩
    have hj' : j < c := by simp at hj; omega
    rw [h.at_ j (by omega), List.getD, List.getD, List.getElem?_take, if_pos hj']
  · rw [run_slice_h (P := Trym.prog) w 22 bo ys.length cb under22 .i64 (c : Int) (by omega) (by omega), elem22, size9]
    simp [Result.andThen, sliced]

/-- 's[c:]'. -/
theorem slice_tail (w0 : World) (bo : Option Addr) (ys : List ByteArray) (cb c : Nat) (hu : StrsV w0 bo ys) (hc : c ≤ ys.length) (hcap : ys.length ≤ cb) :
    ∃ ba, StrsV w0 ba (ys.drop c) ∧ ∀ w, (Instr.slice 22 (.slice bo ys.length cb) (some (.int .i64 (c : Int))) none none).run Trym.prog w = .ok (.slice ba (ys.length - c) (cb - c)) w := by
  refine ⟨if cb = c then bo else bo.map (·.add (c * 1)), fun hp => ?_, fun w => ?_⟩
  · have hlt : c < ys.length := by simp at hp; omega
    obtain ⟨b, off, rfl, h⟩ := hu (by omega)
    rw [if_neg (by omega)]
    refine ⟨b, off + c, by simp [Addr.add_lit], h.lt, fun j hj => ?_⟩
    have hj' : c + j < ys.length := by simp at hj; omega
    rw [Nat.add_assoc, h.at_ (c + j) (by omega), List.getD, List.getD, List.getElem?_drop]
  · rw [run_slice_l (P := Trym.prog) w 22 bo ys.length cb under22 .i64 (c : Int) (by omega) (by omega), elem22, size9]
    simp [Result.andThen, sliced]

/-- The row that copy has filled. -/
theorem row_copied {w : World} {g n : Nat} {Z : List Value} {ys : List ByteArray} (hn : n = ys.length) (hZ : Z.length = n) (hm : n ≤ maxLen)
    (h : w.heap[g]? = some (.cells (splice Z 0 (ys.map Value.string)).toArray 9 (0, 0))) : StrsV w (some ⟨g, 0, none⟩) ys := by
  have e : splice Z 0 (ys.map Value.string) = ys.map Value.string := by
    unfold splice
    rw [List.take_zero, List.nil_append, List.drop_eq_nil_of_le (by simp; omega), List.append_nil]
  rw [e] at h
  exact row_strs (B := 0) (n := ys.length) (vc := ys.length) (e := 9) ⟨by simp, .inr ⟨g, ys.length, _, rfl, Nat.zero_le _, h, Nat.le_refl _, by omega, by simp, List.take_of_length_le (by simp)⟩⟩

theorem row_list {w : World} {g n : Nat} {cs : List Value} (h : w.ownsRow g 9 1 (.slice (some ⟨g, 0, none⟩) n n) n cs) : ∃ Z : List Value, w.heap[g]? = some (.cells Z.toArray 9 (0, 0)) ∧ Z.length = n := by
  rcases h.2 with ⟨e, _⟩ | ⟨g', cap, cur, e, _, hg, _, _, hs, _⟩
  · cases e
  · simp only [Value.slice.injEq, Option.some.injEq, Addr.mk.injEq, and_true, true_and] at e
    obtain ⟨rfl, rfl⟩ := e
    exact ⟨cur.toList, by simpa using hg, by simpa using hs⟩
theorem src_of {w w0 : World} {ad : Addr} {ys : List ByteArray} (hv : StrsV w (some ad) ys) (hb : Below w.heap.size w w0) {g : Nat} : 0 < (ys.map Value.string).length → some (⟨g, 0, none⟩ : Addr) = some ⟨g, 0, none⟩ ∧ ∃ ad', some ad = some ad' ∧ ∀ j v, (ys.map Value.string)[j]? = some v → w0.cell? (ad'.add j) = some v := by
  intro hp
  obtain ⟨b, off, e, h⟩ := hv (by simpa using hp)
  refine ⟨rfl, ad, rfl, fun j v hj => ?_⟩
  cases e
  rw [Addr.add_lit]
  rw [List.getElem?_map] at hj
  have hjl : j < ys.length := by
    by_cases hlt : j < ys.length
    · exact hlt
    · rw [List.getElem?_eq_none (by omega)] at hj; cases hj
  rw [List.getElem?_eq_getElem hjl] at hj
  have := (hb.cell (p := ⟨b, off + j, none⟩) (by exact h.lt)).trans (h.at_ j hjl)
  rw [List.getD, List.getElem?_eq_getElem hjl] at this
  simp only [Option.map_some, Option.some.injEq] at hj
  rw [this, ← hj]
  rfl
theorem strs_one (ys : List ByteArray) : ∀ v ∈ ys.map Value.string, v.oneCell' = true := by
  intro u hu
  obtain ⟨x, _, rfl⟩ := List.mem_map.1 hu
  rfl

/-- 'copy(zzc, decisions)': the row is filled. -/
theorem copy_run {w w0 : World} {ad : Addr} {ys : List ByteArray} {g cap : Nat} {cs : List Value} (hv : StrsV w (some ad) ys) (hb : Below w.heap.size w w0) (hgw : w.heap.size ≤ g) (hm : ys.length ≤ maxLen) (h : w0.ownsRow g 9 1 (.slice (some ⟨g, 0, none⟩) ys.length ys.length) ys.length cs) :
    ∃ w1, (∀ ty, (Builtin.copy_ #[22, 22] ty #[.slice (some ⟨g, 0, none⟩) ys.length ys.length, .slice (some ad) ys.length cap]).run Trym.prog w0 = .ok (.int .i64 (ys.length : Int)) w1) ∧ StrsV w1 (some ⟨g, 0, none⟩) ys ∧ Below w.heap.size w w1 := by
  obtain ⟨Z, hZ, hZl⟩ := row_list h
  by_cases h0 : ys.length = 0
  · refine ⟨w0, fun ty => ?_, fun hp => by omega, hb⟩
    rw [run_copy_none (P := Trym.prog) w0 22 22 ty 9 (some ⟨g, 0, none⟩) (some ad) ys.length ys.length ys.length cap Trym.underlying22 one9 (by rw [h0]; rfl), h0]
    rfl
  · obtain ⟨_, ad', e, hsrc⟩ := src_of (g := g) hv hb (by simp; omega)
    cases e
    have hrun := fun ty => run_copy_row (P := Trym.prog) w0 22 22 ty 9 g 0 ys.length ys.length ad ys.length cap Z.toArray 9 (ys.map Value.string) Trym.underlying22 one9 hZ (by simp) hsrc (by simp; omega) (strs_one ys)
    refine ⟨w0.setRow g (List.take 0 Z.toArray.toList ++ ys.map Value.string ++ List.drop (0 + (ys.map Value.string).length) Z.toArray.toList).toArray, fun ty => (hrun ty).trans (by simp [goInt]), row_copied (Z := Z) rfl hZl hm ?_, below_setRow hb hgw _⟩
    exact (setRow_heap w0 g _ _ 9 _ hZ).trans (by simp [splice])

set_option maxHeartbeats 2000000 in
set_option maxRecDepth 100000 in
theorem law3 (a s x : Int) (ao : Option Addr) (cap : Nat) (ys : List ByteArray) (cut : Int) (w : World) (hv : StrsV w ao ys) (hcap : ys.length ≤ cap) (hcm : cap ≤ 9223372036854775807) (ha : (Lit.int .i64 a).wf = true) (hs : (Lit.int .i64 s).wf = true) :
    Calls Trym.prog 3 #[.int .i64 a, .int .i64 s, .int .i64 x, .slice ao ys.length cap, .int .i64 cut] w fun e w' => e = .returned (.bool true) ∧ Below w.heap.size w w' := by
  obtain ⟨i0, hi, hz0, hz1, hz2⟩ := info_parts Trym.info9
  have hnil := fun w => run_neq_slice_nil_any (P := Trym.prog) w 22 9 ao ys.length cap 0 0 Trym.underlying22
  go_enter Trym.func3, Trym.ntmps3
  go_wp2_with fail
  refine (zzBytes5_any a s x cut ao cap ys w hv (by omega)).mono ?_
  rintro e w' ⟨⟨r, rfl, hr⟩, rfl⟩
  cases r
  · go_wp2
    go_ret
    exact ⟨rfl, Below.refl _ _⟩
  have hl := hr rfl
  clear hr
  by_cases hbig : (65536 : Int) < (ys.length : Int)
  · go_wp2
    go_ret
    exact ⟨rfl, Below.refl _ _⟩
  go_upto_if 37 with fail
  go_cut [3] (fun d wx => ∃ bo' cb', d = .slice bo' ys.length cb' ∧ StrsV wx bo' ys ∧ ys.length ≤ cb' ∧ cb' ≤ 9223372036854775807 ∧ Below w.heap.size w wx)
  case first =>
    cases ao with
    | none =>
      go_wp2_with fail
      go_meet
      exact ⟨_, _, rfl, hv, hcap, hcm, Below.refl _ _⟩
    | some ad =>
      go_wp2_with (first
        | (at_make; refine wpList_make_full _ rfl _ _ 22 rfl w.heap.size 9 i0 _ 1 Trym.underlying22 hi hz0 hz1 _ _ _ _ ys.length rfl rfl rfl rfl (by rw [hz2]; omega) (by unfold maxLen; omega) (Nat.le_refl _) ?_; intro w0 hrow0 hgr0; obtain ⟨w1, hrun, hst1, hB1⟩ := copy_run (cap := cap) hv ((Below.refl _ w).grown hgr0 (Nat.le_refl _) (by simp)) (Nat.le_refl _) (by unfold maxLen; omega) hrow0; clear hrow0 hgr0))
      go_meet
      exact ⟨_, _, rfl, hst1, Nat.le_refl _, by omega, hB1⟩
  case rest =>
    obtain ⟨bo, cb, rfl, hst, hcb, hcbm, hb1⟩ := hcut
    generalize wc = w1 at *
    clear hv hnil hcap hcm
    have hn : (ys.length : Int) ≤ 65536 := by omega
    clear hbig
    go_wp2_with fail
    go_loopw [12, 13] (fun t i wr => ∃ k : Nat, ∃ m : Int, k ≤ ys.length ∧ i = .int .i64 k ∧ t = .int .i64 m ∧ w1 = wr) (fun _ i _ => ys.length - (intOf i).toNat)
    case atStart => exact ⟨0, 0, Nat.zero_le _, rfl, rfl, rfl⟩
    case round =>
      obtain ⟨k, m, hk, rfl, rfl, rfl⟩ := hrel
      by_cases hlt : k < ys.length
      · obtain ⟨b, off, rfl, h⟩ := hst (by omega)
        have hc := h.at_ k hlt
        go_wp2
        · go_ret
          exact ⟨rfl, hb1⟩
        · go_roundw
          case rel => exact ⟨k + 1, _, by omega, by go_num, rfl, by first | rfl | trivial⟩
          case measure => simp [intOf]; omega
      · by_cases hcut : 0 ≤ cut ∧ cut ≤ (ys.length : Int)
        · obtain ⟨c, rfl⟩ : ∃ c : Nat, cut = (c : Int) := ⟨cut.toNat, by omega⟩
          have hc : c ≤ ys.length := by omega
          have hcI : (c : Int) ≤ (ys.length : Int) := hcut.2
          clear hcut
          obtain ⟨ba, hba, hsa⟩ := slice_head w1 bo ys cb c hst hc hcb
          obtain ⟨bb, hbb, hsb⟩ := slice_tail w1 bo ys cb c hst hc hcb
          have hza : (ys.take c).length = c := by simp; omega
          have hzb : (ys.drop c).length = ys.length - c := by simp
          go_wp2_with fail
          refine (zzCount_any a s x bo cb ys w1 hst hl ha hs).mono ?_
          rintro e w2 ⟨rfl, hb2⟩
          have c2 := zzCount_any a s x ba cb (ys.take c) w2 (hba.later (Nat.le_refl _) hb2) (by omega) ha hs
          rw [hza] at c2
          go_wp2_with fail
          refine c2.mono ?_
          clear c2
          rintro e w3 ⟨rfl, hb3⟩
          have hb13 := hb2.trans (hb3.mono hb2.size)
          have c3 := zzCount_any (up a (cnt (ys.take c))) (up s (oth (ys.take c))) x bb (cb - c) (ys.drop c) w3 (hbb.later (Nat.le_refl _) hb13) (by omega) (up_wf _ _) (up_wf _ _)
          rw [hzb, up_up, up_up, ← cnt_append, ← oth_append, List.take_append_drop] at c3
          clear hza hzb
          go_wp2_with fail
          refine c3.mono ?_
          clear c3
          rintro e w4 ⟨rfl, hb4⟩
          have hb14 := hb13.trans (hb4.mono hb13.size)
          have hst4 := hst.later (Nat.le_refl _) hb14
          have hb04 := hb1.trans (hb14.mono hb1.size)
          clear hst hba hbb hsa hsb hb1 hb2 hb3 hb4 hb13 hb14
          go_wp2_with fail
          go_loopw [23, 24] (fun t i wr => ∃ k : Nat, k ≤ ys.length ∧ i = .int .i64 k ∧ t = .int .i64 (cnt (ys.take k)) ∧ w4 = wr) (fun _ i _ => ys.length - (intOf i).toNat)
          case atStart => exact ⟨0, Nat.zero_le _, rfl, rfl, rfl⟩
          case round =>
            obtain ⟨k, hk, rfl, rfl, rfl⟩ := hrel
            have hck := cnt_oth (ys.take k)
            have hkl : (ys.take k).length = k := by simp; omega
            have hck2 : cnt (ys.take k) ≤ k := by omega
            clear hck hkl
            by_cases hlt : k < ys.length
            · obtain ⟨b, off, rfl, h⟩ := hst4 (by omega)
              obtain ⟨y, hy⟩ : ∃ y, y = ys.getD k noStr := ⟨_, rfl⟩
              have hc := h.at_ k hlt
              rw [← hy] at hc
              have hstep : ys.take (k + 1) = ys.take k ++ [y] := by rw [take_snoc ys k noStr hlt, hy]
              clear hy
              cases hA : isA y
              · have R : Hid (cnt (ys.take (k + 1)) = cnt (ys.take k)) := by show _ = _; rw [hstep, cnt_append, (cnt_no hA).1]; rfl
                have hb : (y.toList == [97, 112, 112, 108, 105, 101, 100]) = false := hA
                clear hA hstep
                go_wp2
                go_roundw
                case rel => exact ⟨k + 1, by omega, by go_num, by rw [R.out], by first | rfl | trivial⟩
                case measure => simp [intOf]; omega
              · have R : Hid (cnt (ys.take (k + 1)) = cnt (ys.take k) + 1) := by show _ = _; rw [hstep, cnt_append, (cnt_yes hA).1]
                have hb : (y.toList == [97, 112, 112, 108, 105, 101, 100]) = true := hA
                clear hA hstep
                go_wp2
                go_roundw
                case rel => exact ⟨k + 1, by omega, by go_num, by rw [R.out]; go_num, by first | rfl | trivial⟩
                case measure => simp [intOf]; omega
            · have hke : k = ys.length := by omega
              subst hke
              rw [List.take_length] at hck2 ⊢
              have q1 : (up a (cnt ys) == wrap64 (a + (cnt ys : Int))) = true := by simp [up]
              have q2 : (up s (oth ys) == wrap64 (s + ((ys.length : Int) - (cnt ys : Int)))) = true := by
                have := cnt_oth ys
                rw [show (ys.length : Int) - (cnt ys : Int) = (oth ys : Int) by omega]
                simp [up]
              clear hst4
              go_wp2
              go_ret
              exact ⟨by first | rfl | simp, hb04⟩
        · by_cases h0 : 0 ≤ cut
          · have h1 : (ys.length : Int) < cut := by omega
            clear hcut
            go_wp2
            go_ret
            exact ⟨rfl, hb1⟩
          · have h1 : cut < 0 := by omega
            clear hcut h0
            go_wp2
            go_ret
            exact ⟨rfl, hb1⟩

end Go.Proofs.Qxb6617105aMods
