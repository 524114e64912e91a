/-
  The walk of FnLeftOutOfJoinedSettledIsTheCommonPart.
-/
import Derived.Test.Qxb6616110aModsLaw5
namespace Go.Proofs.Qxb6616110aMods
open Go.RowKit Go.Maps Go.WideMaps

theorem elem42 : Trym.prog.elem 42 = 9 := by kernel_rfl
theorem under42 : Trym.prog.underlying 42 = some (.slice (Trym.prog.elem 42)) := by rw [elem42]; exact Trym.underlying42
theorem size9 (w : World) : (sizeOf 9).run Trym.prog w = .ok 1 w := by kernel_rfl

/-- 's[:c]'. -/
theorem slice_head (w0 : World) (bo : Option Addr) (ys : List ByteArray) (cb c : Nat) (hu : StrsV w0 bo ys) (hc : c ≤ ys.length) (hcap : ys.length ≤ cb) :
    ∃ ba, StrsV w0 ba (ys.take c) ∧ ∀ w, (Instr.slice 42 (.slice bo ys.length cb) none (some (.int .i64 (c : Int))) none).run Trym.prog w = .ok (.slice ba c cb) w := by
  refine ⟨if cb = 0 then bo else bo.map (·.add (0 * 1)), fun hp => ?_, fun w => ?_⟩
  · have hlt : 0 < c := by simp at hp; omega
    obtain ⟨b, off, rfl, h⟩ := hu (by omega)
    rw [if_neg (by omega)]
    refine ⟨b, off, by simp [Addr.add_lit], h.lt, fun j hj => ?_⟩
    have hj' : j < c := by simp at hj; omega
    rw [h.at_ j (by omega), List.getD, List.getD, List.getElem?_take, if_pos hj']
  · rw [run_slice_h (P := Trym.prog) w 42 bo ys.length cb under42 .i64 (c : Int) (by omega) (by omega), elem42, size9]
    simp [Result.andThen, sliced]

/-- 's[c:]'. -/
theorem slice_tail (w0 : World) (bo : Option Addr) (ys : List ByteArray) (cb c : Nat) (hu : StrsV w0 bo ys) (hc : c ≤ ys.length) (hcap : ys.length ≤ cb) :
    ∃ ba, StrsV w0 ba (ys.drop c) ∧ ∀ w, (Instr.slice 42 (.slice bo ys.length cb) (some (.int .i64 (c : Int))) none none).run Trym.prog w = .ok (.slice ba (ys.length - c) (cb - c)) w := by
  refine ⟨if cb = c then bo else bo.map (·.add (c * 1)), fun hp => ?_, fun w => ?_⟩
  · have hlt : c < ys.length := by simp at hp; omega
    obtain ⟨b, off, rfl, h⟩ := hu (by omega)
    rw [if_neg (by omega)]
    refine ⟨b, off + c, by simp [Addr.add_lit], h.lt, fun j hj => ?_⟩
    have hj' : c + j < ys.length := by simp at hj; omega
    rw [Nat.add_assoc, h.at_ (c + j) (by omega), List.getD, List.getD, List.getElem?_drop]
  · rw [run_slice_l (P := Trym.prog) w 42 bo ys.length cb under42 .i64 (c : Int) (by omega) (by omega), elem42, size9]
    simp [Result.andThen, sliced]

set_option maxHeartbeats 1000000 in
theorem zzBytes29_any (ao bo : Option Addr) (ca cb : Nat) (xs : List (ByteArray × Int)) (ys : List ByteArray) (cut : Int) (w : World) (hv : HeldV w ao xs) (hu : StrsV w bo ys) (hl : xs.length ≤ 9223372036854775807) (hl' : ys.length ≤ 9223372036854775807) :
    Calls Trym.prog 29 #[.slice ao xs.length ca, .slice bo ys.length cb, .int .i64 cut] w fun e w' => BoolThen (xs.length ≤ 1048576 ∧ ys.length ≤ 1048576) e ∧ w = w' := by
  go_enter Trym.func29, Trym.ntmps29
  go_wp2
  · go_ret
    exact ⟨⟨_, rfl, by simp⟩, rfl⟩
  · go_loop [7, 8] (fun t i => ∃ k m : Nat, k ≤ xs.length ∧ m ≤ 1048576 ∧ i = .int .i64 k ∧ t = .int .i64 m) (fun _ i => xs.length - (intOf i).toNat)
    case atStart => exact ⟨0, xs.length, Nat.zero_le _, by omega, rfl, rfl⟩
    case round =>
      obtain ⟨k, m, hk, hm, rfl, rfl⟩ := hrel
      by_cases hlt : k < xs.length
      · obtain ⟨b, off, rfl, h⟩ := hv (by omega)
        have hc := h.agg k hlt
        go_wp2
        · go_ret
          exact ⟨⟨_, rfl, by simp⟩, rfl⟩
        · go_ret
          exact ⟨⟨_, rfl, by simp⟩, rfl⟩
        · go_round
          case rel => exact ⟨k + 1, m + xs[k].1.size, by omega, by omega, by go_num, by go_num⟩
          case measure => simp [intOf]; omega
      · go_wp2
        · go_ret
          exact ⟨⟨_, rfl, by simp⟩, rfl⟩
        · go_ret
          exact ⟨⟨_, rfl, by simp⟩, rfl⟩
        · go_loop [7, 9] (fun t i => ∃ k m : Nat, k ≤ ys.length ∧ m ≤ 1048576 ∧ i = .int .i64 k ∧ t = .int .i64 m) (fun _ i => ys.length - (intOf i).toNat)
          case atStart => exact ⟨0, m + ys.length, Nat.zero_le _, by omega, rfl, by go_num⟩
          case round =>
            obtain ⟨k2, m2, hk2, hm2, rfl, rfl⟩ := hrel
            by_cases hlt2 : k2 < ys.length
            · obtain ⟨b, off, rfl, h⟩ := hu (by omega)
              have hc := h.at_ k2 hlt2
              go_wp2
              · go_ret
                exact ⟨⟨_, rfl, by simp⟩, rfl⟩
              · go_ret
                exact ⟨⟨_, rfl, by simp⟩, rfl⟩
              · go_round
                case rel => exact ⟨k2 + 1, m2 + ys[k2].size, by omega, by omega, by go_num, by go_num⟩
                case measure => simp [intOf]; omega
            · go_wp2
              go_ret
              exact ⟨⟨_, rfl, fun _ => ⟨by omega, by omega⟩⟩, rfl⟩

/-- What both cuts leave out, and what the whole leaves out. -/
theorem mem_common {N S out A B : List ByteArray} {c : Nat} (h : LeftOut N S out) (hA : LeftOut N (S.take c) A) (hB : LeftOut N (S.drop c) B) (x : ByteArray) : x ∈ out ↔ x ∈ A ∧ x ∈ B := by
  rw [h.2 x, hA.2 x, hB.2 x]
  have : x ∈ S ↔ x ∈ S.take c ∨ x ∈ S.drop c := by rw [← List.mem_append, List.take_append_drop]
  rw [this]
  constructor
  · rintro ⟨h1, h2⟩
    exact ⟨⟨h1, fun h => h2 (Or.inl h)⟩, h1, fun h => h2 (Or.inr h)⟩
  · rintro ⟨⟨h1, h2⟩, _, h3⟩
    exact ⟨h1, fun h => h.elim h2 h3⟩
theorem common_length {N S out A B : List ByteArray} {c : Nat} (h : LeftOut N S out) (hA : LeftOut N (S.take c) A) (hB : LeftOut N (S.drop c) B) : (A.filter (inB B)).length = out.length := by
  refine List.Perm.length_eq ((List.perm_ext_iff_of_nodup (filter_nodup hA.1 _) h.1).2 fun x => ?_)
  rw [List.mem_filter, inB_iff, mem_common h hA hB]
def both (A B : List ByteArray) (k : Nat) : List ByteArray := (A.take k).filter (inB B)
theorem both_in {A B : List ByteArray} {k : Nat} {s : ByteArray} (h : A.take (k + 1) = A.take k ++ [s]) (hs : inB B s = true) : both A B (k + 1) = both A B k ++ [s] := by
  unfold both; rw [h, List.filter_append]; simp [hs]
theorem both_out {A B : List ByteArray} {k : Nat} {s : ByteArray} (h : A.take (k + 1) = A.take k ++ [s]) (hs : inB B s = false) : both A B (k + 1) = both A B k := by
  unfold both; rw [h, List.filter_append]; simp [hs]
theorem both_le (A B : List ByteArray) (k : Nat) : (both A B k).length ≤ k := Nat.le_trans (List.length_filter_le _ _) (by simp; omega)
theorem both_not {A B : List ByteArray} {k : Nat} {s : ByteArray} (h : inB (A.take k) s = false) : inB (both A B k) s = false := by
  refine inB_false fun hm => ?_
  have := (List.mem_filter.1 hm).1
  rw [inB_true this] at h
  cases h

set_option maxHeartbeats 1000000 in
set_option maxRecDepth 100000 in
theorem law6 (ao bo : Option Addr) (ca cb : Nat) (xs : List (ByteArray × Int)) (ys : List ByteArray) (cut : Int) (w : World) (hv : HeldV w ao xs) (hu : StrsV w bo ys) (hw : WfHeld xs) (hwy : WfStrs ys) (hl : xs.length ≤ 9223372036854775807) (hcap : ys.length ≤ cb) (hcb : cb ≤ 9223372036854775807) :
    Calls Trym.prog 6 #[.slice ao xs.length ca, .slice bo ys.length cb, .int .i64 cut] w fun e w' => e = .returned (.bool true) ∧ Below w.heap.size w w' := by
  have hmm := fun q n w => run_makeMap_hint (P := Trym.prog) Trym.underlying53 q n w
  go_enter Trym.func6, Trym.ntmps6
  go_wp2_with fail
  refine (zzBytes29_any ao bo ca cb xs ys cut w hv hu hl (by omega)).mono ?_
  rintro e w' ⟨⟨r, rfl, hr⟩, rfl⟩
  cases r
  · go_wp2
    go_ret
    exact ⟨rfl, Below.refl _ _⟩
  obtain ⟨hlx, hly⟩ := hr rfl
  clear hl hr
  go_wp2_with fail
  refine (heldBytes_any ao ca xs 0 _ hv hlx).mono ?_
  rintro e w' ⟨⟨n1, rfl⟩, rfl⟩
  go_wp2_with fail
  · go_ret
    exact ⟨rfl, Below.refl _ _⟩
  refine (stringsBytes_any bo cb ys n1 _ hu hly).mono ?_
  rintro e w' ⟨⟨n2, rfl⟩, rfl⟩
  by_cases hcut : 0 ≤ cut ∧ cut ≤ (ys.length : Int)
  · obtain ⟨c, rfl⟩ : ∃ c : Nat, cut = (c : Int) := ⟨cut.toNat, by omega⟩
    have hc : c ≤ ys.length := by omega
    have hcI : (c : Int) ≤ (ys.length : Int) := hcut.2
    clear hcut
    go_wp2_with fail
    · go_ret
      exact ⟨rfl, Below.refl _ _⟩
    refine (leftOutOf_any ao bo ca cb xs ys w hv hu hw hwy hlx hly).mono ?_
    rintro e w1 ⟨⟨out, ⟨vo, vc, rfl, hrow⟩, hlo⟩, hb1⟩
    have hv1 := hv.later (Nat.le_refl _) hb1
    have hu1 := hu.later (Nat.le_refl _) hb1
    have ho1 := row_strs hrow
    have hsz1 := hb1.size
    obtain ⟨ba, hba, hsa⟩ := slice_head w1 bo ys cb c hu1 hc hcap
    obtain ⟨bb, hbb, hsb⟩ := slice_tail w1 bo ys cb c hu1 hc hcap
    have hsz_a : (ys.take c).length = c := by simp; omega
    have hsz_b : (ys.drop c).length = ys.length - c := by simp
    have hwa : WfStrs (ys.take c) := fun x hx => hwy x (List.mem_of_mem_take hx)
    have hwb : WfStrs (ys.drop c) := fun x hx => hwy x (List.mem_of_mem_drop hx)
    have ca_ := leftOutOf_any ao ba ca cb xs (ys.take c) w1 hv1 hba hw hwa hlx (by omega)
    rw [hsz_a] at ca_
    have HA := ca_
    clear hrow hv hu ca_ hsz_a
    go_wp2_with fail
    refine HA.mono ?_
    clear HA
    rintro e w2 ⟨⟨outA, ⟨voA, vcA, rfl, hrowA⟩, hloA⟩, hb2⟩
    have hv2 := hv1.later (Nat.le_refl _) hb2
    have hbb2 := hbb.later (Nat.le_refl _) hb2
    have cb_ := leftOutOf_any ao bb ca (cb - c) xs (ys.drop c) w2 hv2 hbb2 hw hwb hlx (by omega)
    rw [hsz_b] at cb_
    clear hsz_b hsa
    go_wp2_with fail
    refine cb_.mono ?_
    clear cb_
    rintro e w3 ⟨⟨outB, ⟨voB, vcB, rfl, hrowB⟩, hloB⟩, hb3⟩
    have hlen := leftOut_length hlo
    have hole := leftOut_le hlo
    have holA := leftOut_le hloA
    have holB := leftOut_le hloB
    have hwo := leftOut_wf hw hlo
    have hwoA := leftOut_wf hw hloA
    have hwoB := leftOut_wf hw hloB
    have hbb13 := hb2.trans (hb3.mono hb2.size)
    have hb03 := hb1.trans (hbb13.mono hsz1)
    have hv3 := hv2.later (Nat.le_refl _) hb3
    have hu3 := hu1.later (Nat.le_refl _) hbb13
    have ho3 := ho1.later (Nat.le_refl _) hbb13
    have hA3 := (row_strs hrowA).later (Nat.le_refl _) hb3
    have hB3 := row_strs hrowB
    clear hv1 hv2 hu1 ho1 hrowA hrowB hba hbb hbb2 hsb hb1 hb2 hb3 hbb13 hwa hwb hsz1
    go_wp2_with fail
    refine (expected_any ao bo ca cb xs ys w3 hv3 hu3 hw hwy hlx hly).mono ?_
    rintro e w4 ⟨rfl, hb4⟩
    have hexp : ((dcount (names xs) : Int) - (rcount (names xs) ys : Int)) = (out.length : Int) := by omega
    rw [hexp]
    clear hexp hlen
    have hA4 := hA3.later (Nat.le_refl _) hb4
    have hB4 := hB3.later (Nat.le_refl _) hb4
    have ho4 := ho3.later (Nat.le_refl _) hb4
    have hb04 := hb03.trans (hb4.mono hb03.size)
    clear hv3 hu3 ho3 hA3 hB3 hb03 hb4
    go_wp2_with fail
    refine (setOf_any voA vcA outA w4 hA4 hwoA (by omega)).mono ?_
    rintro e w5 ⟨rfl, sA5, hb5⟩
    have hA5 := hA4.later (Nat.le_refl _) hb5
    have hB5 := hB4.later (Nat.le_refl _) hb5
    have ho5 := ho4.later (Nat.le_refl _) hb5
    have hb05 := hb04.trans (hb5.mono hb04.size)
    have l45 := sA5.lt
    clear ho4 hA4 hB4 hb04 hb5
    go_wp2_with fail
    refine (setOf_any voB vcB outB w5 hB5 hwoB (by omega)).mono ?_
    rintro e w6 ⟨rfl, sB6, hb6⟩
    have sA6 := sA5.later hb6 l45
    have hA6 := hA5.later (Nat.le_refl _) hb6
    have ho6 := ho5.later (Nat.le_refl _) hb6
    have hb06 := hb05.trans (hb6.mono hb05.size)
    have l56 := sB6.lt
    clear ho5 hA5 hB5 hb05 hb6 sA5
    go_wp2_with fail
    go_loopw [13, 15] (fun c i wr => ∃ k : Nat, k ≤ outA.length ∧ i = .int .i64 k ∧ c = .int .i64 ((both outA outB k).length) ∧ SetIs wr w6.heap.size k (both outA outB k) ∧ Below w6.heap.size w6 wr) (fun _ i _ => outA.length - (intOf i).toNat)
    case atStart => exact ⟨0, Nat.zero_le _, rfl, rfl, SetIs.made _, (Below.refl _ _).alloc (Nat.le_refl _) _⟩
    case round =>
      obtain ⟨k, hk, rfl, rfl, hcnt, hbr⟩ := hrel
      by_cases hlt : k < outA.length
      · obtain ⟨b, off, rfl, h⟩ := hA6 (by omega)
        have n1 := nodup_at hloA.1 hlt
        obtain ⟨s, hs⟩ : ∃ s, s = outA.getD k noStr := ⟨_, rfl⟩
        have hc0 : wr.cell? ⟨b, off + k, none⟩ = some (.string s) := by rw [hs]; exact (hbr.cell (by exact h.lt)).trans (h.at_ k hlt)
        have hws : s.size ≤ maxLen := by rw [hs]; exact wfStr_at hwoA k
        have hstep : outA.take (k + 1) = outA.take k ++ [s] := by rw [take_snoc outA k noStr hlt, hs]
        rw [← hs] at n1
        have l1 := (sB6.later hbr l56).look hws
        have l2 := hcnt.look hws
        rw [both_not n1] at l2
        have hcl := both_le outA outB k
        cases hin : inB outB s
        · rw [hin] at l1
          have R1 : SetIs wr w6.heap.size (k + 1) (both outA outB (k + 1)) := by rw [both_out hstep hin]; exact hcnt.mono (Nat.le_succ _)
          have R3 : Hid ((both outA outB (k + 1)).length = (both outA outB k).length) := by show _ = _; rw [both_out hstep hin]
          clear hs n1 hstep hin hcnt sA6 sB6 ho6
          go_wp2
          go_roundw
          case rel => exact ⟨k + 1, by omega, by go_num, by rw [R3.out], R1, hbr⟩
          case measure => simp [intOf]; omega
        · rw [hin] at l1
          obtain ⟨w7, hrun, hcnt7, hgr7⟩ := hcnt.add (s := s) (by unfold maxLen; omega) hws
          have R1 : SetIs w7 w6.heap.size (k + 1) (both outA outB (k + 1)) := by rw [both_in hstep hin]; exact hcnt7
          have R2 : Below w6.heap.size w6 w7 := hbr.grown hgr7 hbr.size (fun j hj => by cases hj; exact Nat.le_refl _)
          have R3 : Hid ((both outA outB (k + 1)).length = (both outA outB k).length + 1) := by show _ = _; rw [both_in hstep hin]; simp
          clear hs n1 hstep hin hcnt sA6 sB6 ho6 hcnt7 hgr7 hbr
          go_wp2
          go_roundw
          case rel => exact ⟨k + 1, by omega, by go_num, by rw [R3.out]; go_num, R1, R2⟩
          case measure => simp [intOf]; omega
      · have hke : k = outA.length := by omega
        subst hke
        have hcl : (both outA outB outA.length).length = out.length := by unfold both; rw [List.take_length]; exact common_length hlo hloA hloB
        rw [hcl]
        clear hcl hcnt
        generalize wr = w7 at *
        have l67 := hbr.size
        have sA7 := sA6.later hbr (by omega)
        have sB7 := sB6.later hbr l56
        have ho7 := ho6.later (Nat.le_refl _) hbr
        have hb07 := hb06.trans (hbr.mono hb06.size)
        clear sA6 sB6 ho6 hbr hb06 hA6
        go_wp2_with fail
        go_loopw [17] (fun i wr => ∃ k : Nat, k ≤ out.length ∧ i = .int .i64 k ∧ SetIs wr w7.heap.size k (out.take k) ∧ Below w7.heap.size w7 wr) (fun i _ => out.length - (intOf i).toNat)
        case atStart => exact ⟨0, Nat.zero_le _, rfl, SetIs.made _, (Below.refl _ _).alloc (Nat.le_refl _) _⟩
        case round =>
          obtain ⟨k, hk, rfl, hseen, hbr⟩ := hrel
          by_cases hlt2 : k < out.length
          · obtain ⟨b, off, rfl, h⟩ := ho7 (by omega)
            have n1 := nodup_at hlo.1 hlt2
            have n2 := mem_at hlt2
            obtain ⟨s, hs⟩ : ∃ s, s = out.getD k noStr := ⟨_, rfl⟩
            have hc0 : wr.cell? ⟨b, off + k, none⟩ = some (.string s) := by rw [hs]; exact (hbr.cell (by exact h.lt)).trans (h.at_ k hlt2)
            have hws : s.size ≤ maxLen := by rw [hs]; exact wfStr_at hwo k
            have hstep : out.take (k + 1) = out.take k ++ [s] := by rw [take_snoc out k noStr hlt2, hs]
            rw [← hs] at n1 n2
            have l1 := hseen.look hws
            have l2 := (sA7.later hbr (by omega)).look hws
            have l3 := (sB7.later hbr (by omega)).look hws
            rw [n1] at l1
            rw [inB_true ((mem_common hlo hloA hloB s).1 n2).1] at l2
            rw [inB_true ((mem_common hlo hloA hloB s).1 n2).2] at l3
            obtain ⟨w8, hrun, hseen8, hgr8⟩ := hseen.add (s := s) (by unfold maxLen; omega) hws
            have R1 : SetIs w8 w7.heap.size (k + 1) (out.take (k + 1)) := by rw [hstep]; exact hseen8
            have R2 : Below w7.heap.size w7 w8 := hbr.grown hgr8 hbr.size (fun j hj => by cases hj; exact Nat.le_refl _)
            clear hs n1 n2 hstep hseen8 hgr8 hseen hbr sA7 sB7
            go_wp2
            go_roundw
            case rel => exact ⟨k + 1, by omega, by go_num, R1, R2⟩
            case measure => simp [intOf]; omega
          · clear hseen sA7 sB7
            go_wp2
            go_ret
            exact ⟨rfl, hb07.trans (hbr.mono hb07.size)⟩
  · by_cases h0 : 0 ≤ cut
    · have h1 : (ys.length : Int) < cut := by omega
      clear hcut
      go_wp2
      · go_ret
        exact ⟨rfl, Below.refl _ _⟩
      · go_ret
        exact ⟨rfl, Below.refl _ _⟩
    · have h1 : cut < 0 := by omega
      clear hcut h0
      go_wp2
      · go_ret
        exact ⟨rfl, Below.refl _ _⟩
      · go_ret
        exact ⟨rfl, Below.refl _ _⟩

end Go.Proofs.Qxb6616110aMods
