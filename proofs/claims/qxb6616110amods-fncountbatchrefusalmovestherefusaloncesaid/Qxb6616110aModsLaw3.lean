/-
  The walk of FnCountBatchRefusalMovesTheRefusalOnce.
-/
import Derived.Test.Qxb6616110aModsFlight
namespace Go.Proofs.Qxb6616110aMods
open Go.RowKit Go.Maps

theorem look_fail_ok {w : World} {b n : Nat} {D : DataW Value} (h : w.ownsMap Trym.prog 2 failR b n D) {key : Value} {kl : Lit} (hkey : keyOf Trym.prog 2 key = some kl) :
    (Instr.lookup 32 (.map (some b)) key true).run Trym.prog w = .ok (.tuple #[.agg #[.int .i64 (valAt D kl).1, .string (valAt D kl).2], .bool (Maps.has D kl)]) w := by
  obtain ⟨v, ps, hrun, hv⟩ := h.look_ok law2 Trym.underlying32 (zero39 w) (zd := zeroFail) (zp := []) rfl hkey
  obtain ⟨a, s, rfl, hz⟩ := failR_inv hv
  rw [valAt_of (congrArg Prod.fst hz)]
  exact hrun

set_option maxHeartbeats 1000000 in
set_option maxRecDepth 100000 in
theorem law3 (ao bo : Option Addr) (ca cb : Nat) (xs ys : List (Int × ByteArray)) (id : Int) (w : World) (hv : FailsV w ao xs) (hu : FailsV w bo ys) (hw : WfIds xs) (wid : (Lit.int .i64 id).wf = true) (hl : xs.length ≤ 9223372036854775807) (hl' : ys.length ≤ 9223372036854775807) :
    Calls Trym.prog 3 #[.slice ao xs.length ca, .slice bo ys.length cb, .int .i64 id] w fun e w' => e = .returned (.bool true) ∧ Below w.heap.size w w' := by
  have hkey : keyOf Trym.prog 2 (.int .i64 id) = some (.int .i64 id) := keyOf_int_mk Trym.underlying2 wid
  go_enter Trym.func3, Trym.ntmps3
  go_wp2_with fail
  refine (zzBytes3_any ao bo ca cb xs ys id w hv hu hl hl').mono ?_
  rintro e w' ⟨⟨r, rfl, hr⟩, rfl⟩
  cases r
  · go_wp2
    go_ret
    exact ⟨rfl, Below.refl _ _⟩
  obtain ⟨hlx, hly⟩ := hr rfl
  clear hl hl'
  go_wp2_with fail
  refine (failsBytes_any ao ca xs 0 _ hv hlx).mono ?_
  rintro e w' ⟨⟨n1, rfl⟩, rfl⟩
  go_wp2_with fail
  · go_ret
    exact ⟨rfl, Below.refl _ _⟩
  refine (failsBytes_any bo cb ys n1 _ hu hly).mono ?_
  rintro e w' ⟨⟨n2, rfl⟩, rfl⟩
  go_wp2_with fail
  · go_ret
    exact ⟨rfl, Below.refl _ _⟩
  refine (lastByID_any ao ca xs _ hv hw hlx).mono ?_
  rintro e w1 ⟨rfl, hm0, hb1⟩
  go_wp2_with (first | (at_lookup; refine wpList_lookup_fail_ok _ rfl _ _ 25 rfl 2 28 law2 Trym.underlying25 (zero28 _) _ _ _ rfl hm0 _ _ rfl hkey ?_))
  -- the world behind 'want'
  have hw1 := hb1.size
  have lM0 := hm0.lt
  have hb2 : Below w.heap.size w (w1.alloc (.cells #[.int .i64 (valAt (Dm xs) (.int .i64 id)).1, .string (valAt (Dm xs) (.int .i64 id)).2] 28)) := hb1.alloc hw1 _
  have hm2 := hm0.alloc (.cells #[.int .i64 (valAt (Dm xs) (.int .i64 id)).1, .string (valAt (Dm xs) (.int .i64 id)).2] 28)
  have gb : (w1.alloc (.cells #[.int .i64 (valAt (Dm xs) (.int .i64 id)).1, .string (valAt (Dm xs) (.int .i64 id)).2] 28)).heap[w1.heap.size]? = some (.cells #[.int .i64 (valAt (Dm xs) (.int .i64 id)).1, .string (valAt (Dm xs) (.int .i64 id)).2] 28 (0, 0)) := heap_alloc_new w1 _
  have gs : (w1.alloc (.cells #[.int .i64 (valAt (Dm xs) (.int .i64 id)).1, .string (valAt (Dm xs) (.int .i64 id)).2] 28)).heap.size ≥ w1.heap.size + 1 := by simp
  generalize w1.alloc (.cells #[.int .i64 (valAt (Dm xs) (.int .i64 id)).1, .string (valAt (Dm xs) (.int .i64 id)).2] 28) = w2 at *
  have hv2 := hv.later hb2
  have hu2 := hu.later hb2
  refine (refusalMap_any ao ca xs w2 hv2 hw hlx).mono ?_
  rintro e w3 ⟨rfl, hm3, hb3⟩
  go_wp2_with fail
  have hu3 := hu2.later hb3
  have lM3 := hm3.lt
  refine (toFailures_any bo cb ys w3 hu3 hly).mono ?_
  rintro e w4 ⟨⟨vo, vc, rfl, hrow⟩, hb4⟩
  go_wp2_with fail
  refine (newFlight_any _ _ _ _ _ _ _ _ _ _ _ _ _ _ _ _ w4).mono ?_
  rintro e w5 ⟨rfl, hlaid⟩
  have st5 : St w2.heap.size w4.heap.size w2.heap.size (Dm xs) ys.length (flat ys) w5 := St.start hm3 hlx hb4 hrow hlaid
  have k0 : w2.cell? ⟨w1.heap.size, 0, none⟩ = some (.int .i64 (valAt (Dm xs) (.int .i64 id)).1) := by simp [World.cell?, gb]
  have k1 : w2.cell? ⟨w1.heap.size, 1, none⟩ = some (.string (valAt (Dm xs) (.int .i64 id)).2) := by simp [World.cell?, gb]
  have B25 : Below w2.heap.size w2 w5 := (hb3.trans (hb4.mono (Nat.le_of_lt lM3))).trans (hlaid.below.mono (by have := hb4.size; omega))
  clear hm0 hb1 gb hv2 hu2 hm3 hb3 hu3 hrow hb4 hlaid lM3
  by_cases hh : Maps.has (Dm xs) (.int .i64 id) = true
  · go_wp2_with fail
    refine (zzcount_yes _ _ _ _ _ _ w5 st5 hly id wid hh).mono ?_
    rintro e w6 ⟨rfl, b6, st6⟩
    go_wp2_with fail
    refine (zzcount_no _ _ _ _ _ _ w6 st6 id wid has_del_same).mono ?_
    rintro e w7 ⟨rfl, b7⟩
    have st7 := st6.later b7
    have sz6 : w2.heap.size ≤ w6.heap.size := by obtain ⟨_, _, t6⟩ := st6; exact t6.sz
    go_wp2_with fail
    obtain ⟨vo7, vc7, t7⟩ := st7
    obtain ⟨g7, rfl⟩ : ∃ g, vo7 = some ⟨g, 0, none⟩ := by
      rcases t7.row.2 with ⟨_, h0⟩ | ⟨g, cap, cur, e, _⟩
      · omega
      · simp only [Value.slice.injEq] at e
        exact ⟨g, e.1⟩
    have f7 := row_fails t7.row
    obtain ⟨lg7, e0, e1⟩ := row_last t7.row
    have b57 : Below w2.heap.size w2 w7 := B25.trans (b6.trans (b7.mono sz6))
    refine (zzfailed_any _ 0 _ w7 (by simpa using t7.c16)).mono ?_
    rintro e w' ⟨rfl, rfl⟩
    have b07 : Below w.heap.size w w7 := hb2.trans (b57.mono (by omega))
    have u7 : FailsV w7 bo ys := hu.later b07
    have m7 := ownsMap_later hm2 b57 (by omega)
    have x7 : FailsV w7 ao xs := hv.later b07
    have s13 := t7.c13
    have sm7 := t7.map
    have wk0 := (b57.cell (p := ⟨w1.heap.size, 0, none⟩) (by show w1.heap.size < _; omega)).trans k0
    have wk1 := (b57.cell (p := ⟨w1.heap.size, 1, none⟩) (by show w1.heap.size < _; omega)).trans k1
    have l27 : w2.heap.size ≤ w7.heap.size := b57.size
    have lF7 : w4.heap.size < w7.heap.size := World.block_lt_of_cell? w7 ⟨w4.heap.size, 13, none⟩ s13
    have hsd := size_del (k := .int .i64 id) (hm2.tidy law2)
    rw [hh, if_pos rfl] at hsd
    have hss := hm2.size_le
    clear st6 b6 b7 st5 B25 k0 k1 hu hv hm2 t7
    go_wp2_with fail
    go_loopw [16] (fun i wr => ∃ k : Nat, k ≤ ys.length ∧ i = .int .i64 k ∧ Below w7.heap.size w7 wr) (fun i _ => ys.length - (intOf i).toNat)
    case atStart => exact ⟨0, Nat.zero_le _, rfl, Below.refl _ _⟩
    case round =>
      obtain ⟨k, hk, rfl, hbr⟩ := hrel
      by_cases hlt : k < ys.length
      · obtain ⟨bb, off, rfl, hbf⟩ := u7 (by omega)
        obtain ⟨gg, ge, hgf⟩ := f7 (by omega)
        cases ge
        obtain ⟨a, ha⟩ : ∃ a, a = (ys.getD k (0, ByteArray.empty)).1 := ⟨_, rfl⟩
        obtain ⟨s, hs⟩ : ∃ s, s = (ys.getD k (0, ByteArray.empty)).2 := ⟨_, rfl⟩
        have c0 : wr.cell? ⟨bb, off + k * 2, none⟩ = some (.int .i64 a) := by rw [ha]; exact (hbr.cell (by exact hbf.lt)).trans (hbf.id k hlt)
        have c1 : wr.cell? ⟨bb, off + k * 2 + 1, none⟩ = some (.string s) := by rw [hs]; exact (hbr.cell (by exact hbf.lt)).trans (hbf.err k hlt)
        have d0 : wr.cell? ⟨g7, k * 2, none⟩ = some (.int .i64 a) := by have := hgf.id k hlt; rw [Nat.zero_add] at this; rw [ha]; exact (hbr.cell (by exact hgf.lt)).trans this
        have d1 : wr.cell? ⟨g7, k * 2 + 1, none⟩ = some (.string s) := by have := hgf.err k hlt; rw [Nat.zero_add] at this; rw [hs]; exact (hbr.cell (by exact hgf.lt)).trans this
        have hi0 : (0 : Int) ≤ (k : Int) := Int.natCast_nonneg _
        have hi1 : (k : Int) < (ys.length : Int) := by omega
        have hi2 : (k : Int) < (ys.length : Int) + 1 := by omega
        have lb : bb < wr.heap.size := Nat.lt_of_lt_of_le hbf.lt hbr.size
        have lg : g7 < wr.heap.size := Nat.lt_of_lt_of_le hgf.lt hbr.size
        clear ha hs wk0 wk1 e0 e1 m7 sm7 s13 hsd hss x7 u7 f7 hgf hbf
        go_wp2_with fail
        go_region_held3 (fun w' => w'.cell? ⟨bb, off + k * 2, none⟩ = some (.int .i64 a) ∧ w'.cell? ⟨bb, off + k * 2 + 1, none⟩ = some (.string s) ∧ w'.cell? ⟨g7, k * 2, none⟩ = some (.int .i64 a) ∧ w'.cell? ⟨g7, k * 2 + 1, none⟩ = some (.string s))
          (first | go_keep | (refine ⟨(hbx.cell (by exact lb)).trans c0, (hbx.cell (by exact lb)).trans c1, (hbx.cell (by exact lg)).trans d0, (hbx.cell (by exact lg)).trans d1⟩))
          (first | (go_at_call 17; refine (sameFail_eq a a s s rfl rfl _).mono ?_; rintro e w' ⟨rfl, hbx⟩))
        have hbr2 := hbr.drew.trans (hbx.mono hbr.size)
        clear c0 c1 d0 d1 hbx
        go_wp2
        go_roundw
        case rel => exact ⟨k + 1, by omega, by go_num, hbr2⟩
        case measure => simp [intOf]; omega
      · have hke : k = ys.length := by omega
        subst hke
        have c0 := (hbr.cell (p := ⟨w1.heap.size, 0, none⟩) (by show w1.heap.size < _; omega)).trans wk0
        have c1 := (hbr.cell (p := ⟨w1.heap.size, 1, none⟩) (by show w1.heap.size < _; omega)).trans wk1
        have d0 := (hbr.cell (p := ⟨g7, ys.length * 2, none⟩) (by exact lg7)).trans e0
        have d1 := (hbr.cell (p := ⟨g7, ys.length * 2 + 1, none⟩) (by exact lg7)).trans e1
        have hi0 : (0 : Int) ≤ (ys.length : Int) := Int.natCast_nonneg _
        have hi2 : (ys.length : Int) < (ys.length : Int) + 1 := by omega
        have lb : w1.heap.size < wr.heap.size := by have := hbr.size; omega
        have lg : g7 < wr.heap.size := Nat.lt_of_lt_of_le lg7 hbr.size
        go_wp2_with fail
        go_region_held3 (fun w' => w'.cell? ⟨w1.heap.size, 0, none⟩ = some (.int .i64 (valAt (Dm xs) (.int .i64 id)).1) ∧ w'.cell? ⟨w1.heap.size, 1, none⟩ = some (.string (valAt (Dm xs) (.int .i64 id)).2) ∧ w'.cell? ⟨g7, ys.length * 2, none⟩ = some (.int .i64 (valAt (Dm xs) (.int .i64 id)).1) ∧ w'.cell? ⟨g7, ys.length * 2 + 1, none⟩ = some (.string (valAt (Dm xs) (.int .i64 id)).2))
          (first | go_keep | (refine ⟨(hbx.cell (by exact lb)).trans c0, (hbx.cell (by exact lb)).trans c1, (hbx.cell (by exact lg)).trans d0, (hbx.cell (by exact lg)).trans d1⟩))
          (first | (go_at_call 17; refine (sameFail_eq _ _ _ _ rfl rfl _).mono ?_; rintro e w' ⟨rfl, hbx⟩))
        have b8 := hbr.drew.trans (hbx.mono hbr.size)
        clear c0 c1 d0 d1 hbx hbr wk0 wk1 e0 e1 f7 u7 lb lg hi0 hi2
        generalize w' = w8 at *
        have s13' := (b8.cell (p := ⟨w4.heap.size, 13, none⟩) (by exact lF7)).trans s13
        have m8 := ownsMap_later m7 b8 m7.lt
        have n8 := ownsMap_later sm7 b8 sm7.lt
        have x8 := x7.later b8
        clear m7 sm7 x7 s13
        have hds : Maps.has ((Dm xs).del (.int .i64 id)) (.int .i64 id) = false := has_del_same
        go_wp2_with fail
        refine (zzrefusals_any _ 0 _ w8 (by simpa using s13')).mono ?_
        rintro e w' ⟨rfl, rfl⟩
        go_wp2_with (first | (at_len; refine wpList_len_own _ rfl _ 32 rfl 2 39 Trym.underlying32 failR _ _ _ rfl n8 ?_) | (at_len; refine wpList_len_own _ rfl _ 25 rfl 2 28 Trym.underlying25 failR _ _ _ rfl m8 ?_) | (at_lookup; refine wpList_lookup_fail_ok _ rfl _ _ 32 rfl 2 39 law2 Trym.underlying32 (zero39 _) _ _ _ rfl n8 _ _ rfl hkey ?_))
        have b9 : Below w8.heap.size w8 (w8.alloc (.cells #[.int .i64 (valAt ((Dm xs).del (.int .i64 id)) (.int .i64 id)).1, .string (valAt ((Dm xs).del (.int .i64 id)) (.int .i64 id)).2] 39)) := (Below.refl _ _).alloc (Nat.le_refl _) _
        go_loopw [20] (fun i wr => ∃ k : Nat, k ≤ xs.length ∧ i = .int .i64 k ∧ Below w8.heap.size w8 wr) (fun i _ => xs.length - (intOf i).toNat)
        case atStart => exact ⟨0, Nat.zero_le _, rfl, b9⟩
        case round =>
          obtain ⟨k, hk, rfl, hbr⟩ := hrel
          by_cases hlt : k < xs.length
          · obtain ⟨bb, off, rfl, hbf⟩ := x8 (by omega)
            have hhas := has_Dm hlt
            have wfa := wf_at hw k
            obtain ⟨a, ha⟩ : ∃ a, a = (xs.getD k (0, ByteArray.empty)).1 := ⟨_, rfl⟩
            have c0 : wr.cell? ⟨bb, off + k * 2, none⟩ = some (.int .i64 a) := by rw [ha]; exact (hbr.cell (by exact hbf.lt)).trans (hbf.id k hlt)
            rw [← ha] at hhas wfa
            have hka : keyOf Trym.prog 2 (.int .i64 a) = some (.int .i64 a) := keyOf_int_mk Trym.underlying2 wfa
            have mr := ownsMap_later m8 hbr m8.lt
            have nr := ownsMap_later n8 hbr n8.lt
            have szr := hbr.size
            clear ha hsd hss hds x8 m8 n8 hbf b9 b8
            by_cases hai : a = id
            · have hq : (a == id) = true := by simpa using hai
              clear hai
              go_wp2
              go_roundw
              case rel => exact ⟨k + 1, by omega, by go_num, hbr⟩
              case measure => simp [intOf]; omega
            · have hq : (a == id) = false := by simpa using hai
              have h1 : Maps.has ((Dm xs).del (.int .i64 id)) (.int .i64 a) = true := by rw [has_del_other (by simpa using hai)]; exact hhas
              have h2 : valAt ((Dm xs).del (.int .i64 id)) (.int .i64 a) = valAt (Dm xs) (.int .i64 a) := valAt_del (by simpa using hai)
              clear hai hhas
              have hlk := fun o => look_fail (mr.alloc o) hka
              have hlk1 := look_fail_ok nr hka
              go_wp2_with (first | (go_at_call 17; refine (sameFail_eq _ _ _ _ rfl rfl _).mono ?_; rintro e w' ⟨rfl, hbx⟩))
              have hbr2 : Below w8.heap.size w8 w' := (hbr.alloc szr _).trans (hbx.mono (by simp; omega))
              clear hbx hlk hlk1 mr nr c0
              go_wp2
              go_roundw
              case rel => exact ⟨k + 1, by omega, by go_num, hbr2⟩
              case measure => simp [intOf]; omega
          · go_wp2
            go_ret
            exact ⟨rfl, b07.trans ((b8.trans (hbr.mono b8.size)).mono b07.size)⟩
  · have hh : Maps.has (Dm xs) (.int .i64 id) = false := by simpa using hh
    go_wp2_with fail
    refine (zzcount_no _ _ _ _ _ _ w5 st5 id wid hh).mono ?_
    rintro e w6 ⟨rfl, b6⟩
    have st6 := st5.later b6
    go_wp2_with fail
    refine (zzcount_no _ _ _ _ _ _ w6 st6 id wid hh).mono ?_
    rintro e w7 ⟨rfl, b7⟩
    have st7 := st6.later b7
    have sz6 : w2.heap.size ≤ w6.heap.size := by obtain ⟨_, _, t6⟩ := st6; exact t6.sz
    go_wp2_with fail
    obtain ⟨vo7, vc7, t7⟩ := st7
    have t7row : w7.ownsRow w2.heap.size 39 2 (.slice vo7 ys.length vc7) ys.length (flat ys ++ []) := by rw [List.append_nil]; exact t7.row
    have f7 := row_fails t7row
    clear t7row
    have b57 : Below w2.heap.size w2 w7 := B25.trans ((b6.mono B25.size).trans (b7.mono sz6))
    refine (zzfailed_any _ 0 _ w7 (by simpa using t7.c16)).mono ?_
    rintro e w' ⟨rfl, rfl⟩
    have b07 : Below w.heap.size w w7 := hb2.trans (b57.mono (by omega))
    have u7 : FailsV w7 bo ys := hu.later b07
    have m7 := ownsMap_later hm2 b57 (by omega)
    have x7 : FailsV w7 ao xs := hv.later b07
    have s13 := t7.c13
    have sm7 : w7.ownsMap Trym.prog 2 failR w2.heap.size 1048576 ((Dm xs).del (.int .i64 id)) := by rw [del_of_not_has hh]; exact t7.map
    have wk0 := (b57.cell (p := ⟨w1.heap.size, 0, none⟩) (by show w1.heap.size < _; omega)).trans k0
    have wk1 := (b57.cell (p := ⟨w1.heap.size, 1, none⟩) (by show w1.heap.size < _; omega)).trans k1
    have l27 : w2.heap.size ≤ w7.heap.size := b57.size
    have lF7 : w4.heap.size < w7.heap.size := World.block_lt_of_cell? w7 ⟨w4.heap.size, 13, none⟩ s13
    have hsd := size_del (k := .int .i64 id) (hm2.tidy law2)
    rw [hh, if_neg (by simp)] at hsd
    have hss := hm2.size_le
    clear st6 b6 b7 st5 B25 k0 k1 hu hv hm2 t7
    go_wp2_with fail
    go_loopw [16] (fun i wr => ∃ k : Nat, k ≤ ys.length ∧ i = .int .i64 k ∧ Below w7.heap.size w7 wr) (fun i _ => ys.length - (intOf i).toNat)
    case atStart => exact ⟨0, Nat.zero_le _, rfl, Below.refl _ _⟩
    case round =>
      obtain ⟨k, hk, rfl, hbr⟩ := hrel
      by_cases hlt : k < ys.length
      · obtain ⟨bb, off, rfl, hbf⟩ := u7 (by omega)
        obtain ⟨g7, rfl, hgf⟩ := f7 (by omega)
        obtain ⟨a, ha⟩ : ∃ a, a = (ys.getD k (0, ByteArray.empty)).1 := ⟨_, rfl⟩
        obtain ⟨s, hs⟩ : ∃ s, s = (ys.getD k (0, ByteArray.empty)).2 := ⟨_, rfl⟩
        have c0 : wr.cell? ⟨bb, off + k * 2, none⟩ = some (.int .i64 a) := by rw [ha]; exact (hbr.cell (by exact hbf.lt)).trans (hbf.id k hlt)
        have c1 : wr.cell? ⟨bb, off + k * 2 + 1, none⟩ = some (.string s) := by rw [hs]; exact (hbr.cell (by exact hbf.lt)).trans (hbf.err k hlt)
        have d0 : wr.cell? ⟨g7, k * 2, none⟩ = some (.int .i64 a) := by have := hgf.id k hlt; rw [Nat.zero_add] at this; rw [ha]; exact (hbr.cell (by exact hgf.lt)).trans this
        have d1 : wr.cell? ⟨g7, k * 2 + 1, none⟩ = some (.string s) := by have := hgf.err k hlt; rw [Nat.zero_add] at this; rw [hs]; exact (hbr.cell (by exact hgf.lt)).trans this
        have hi0 : (0 : Int) ≤ (k : Int) := Int.natCast_nonneg _
        have hi1 : (k : Int) < (ys.length : Int) := by omega
        have hi2 : (k : Int) < (ys.length : Int) + 1 := by omega
        have lb : bb < wr.heap.size := Nat.lt_of_lt_of_le hbf.lt hbr.size
        have lg : g7 < wr.heap.size := Nat.lt_of_lt_of_le hgf.lt hbr.size
        clear ha hs wk0 wk1 m7 sm7 s13 hsd hss x7 u7 f7 hgf hbf
        go_wp2_with fail
        go_region_held3 (fun w' => w'.cell? ⟨bb, off + k * 2, none⟩ = some (.int .i64 a) ∧ w'.cell? ⟨bb, off + k * 2 + 1, none⟩ = some (.string s) ∧ w'.cell? ⟨g7, k * 2, none⟩ = some (.int .i64 a) ∧ w'.cell? ⟨g7, k * 2 + 1, none⟩ = some (.string s))
          (first | go_keep | (refine ⟨(hbx.cell (by exact lb)).trans c0, (hbx.cell (by exact lb)).trans c1, (hbx.cell (by exact lg)).trans d0, (hbx.cell (by exact lg)).trans d1⟩))
          (first | (go_at_call 17; refine (sameFail_eq a a s s rfl rfl _).mono ?_; rintro e w' ⟨rfl, hbx⟩))
        have hbr2 := hbr.drew.trans (hbx.mono hbr.size)
        clear c0 c1 d0 d1 hbx
        go_wp2
        go_roundw
        case rel => exact ⟨k + 1, by omega, by go_num, hbr2⟩
        case measure => simp [intOf]; omega
      · have hke : k = ys.length := by omega
        subst hke
        have b8 := hbr.drew
        clear hbr wk0 wk1 f7 u7
        go_wp2_with fail
        go_region
        go_wp2_with fail
        generalize wr.drew = w8 at *
        have s13' := (b8.cell (p := ⟨w4.heap.size, 13, none⟩) (by exact lF7)).trans s13
        have m8 := ownsMap_later m7 b8 m7.lt
        have n8 := ownsMap_later sm7 b8 sm7.lt
        have x8 := x7.later b8
        clear m7 sm7 x7 s13
        have hds : Maps.has ((Dm xs).del (.int .i64 id)) (.int .i64 id) = false := has_del_same
        go_wp2_with fail
        refine (zzrefusals_any _ 0 _ w8 (by simpa using s13')).mono ?_
        rintro e w' ⟨rfl, rfl⟩
        go_wp2_with (first | (at_len; refine wpList_len_own _ rfl _ 32 rfl 2 39 Trym.underlying32 failR _ _ _ rfl n8 ?_) | (at_len; refine wpList_len_own _ rfl _ 25 rfl 2 28 Trym.underlying25 failR _ _ _ rfl m8 ?_) | (at_lookup; refine wpList_lookup_fail_ok _ rfl _ _ 32 rfl 2 39 law2 Trym.underlying32 (zero39 _) _ _ _ rfl n8 _ _ rfl hkey ?_))
        have b9 : Below w8.heap.size w8 (w8.alloc (.cells #[.int .i64 (valAt ((Dm xs).del (.int .i64 id)) (.int .i64 id)).1, .string (valAt ((Dm xs).del (.int .i64 id)) (.int .i64 id)).2] 39)) := (Below.refl _ _).alloc (Nat.le_refl _) _
        go_loopw [20] (fun i wr => ∃ k : Nat, k ≤ xs.length ∧ i = .int .i64 k ∧ Below w8.heap.size w8 wr) (fun i _ => xs.length - (intOf i).toNat)
        case atStart => exact ⟨0, Nat.zero_le _, rfl, b9⟩
        case round =>
          obtain ⟨k, hk, rfl, hbr⟩ := hrel
          by_cases hlt : k < xs.length
          · obtain ⟨bb, off, rfl, hbf⟩ := x8 (by omega)
            have hhas := has_Dm hlt
            have wfa := wf_at hw k
            obtain ⟨a, ha⟩ : ∃ a, a = (xs.getD k (0, ByteArray.empty)).1 := ⟨_, rfl⟩
            have c0 : wr.cell? ⟨bb, off + k * 2, none⟩ = some (.int .i64 a) := by rw [ha]; exact (hbr.cell (by exact hbf.lt)).trans (hbf.id k hlt)
            rw [← ha] at hhas wfa
            have hka : keyOf Trym.prog 2 (.int .i64 a) = some (.int .i64 a) := keyOf_int_mk Trym.underlying2 wfa
            have mr := ownsMap_later m8 hbr m8.lt
            have nr := ownsMap_later n8 hbr n8.lt
            have szr := hbr.size
            clear ha hsd hss hds x8 m8 n8 hbf b9 b8
            by_cases hai : a = id
            · have hq : (a == id) = true := by simpa using hai
              clear hai
              go_wp2
              go_roundw
              case rel => exact ⟨k + 1, by omega, by go_num, hbr⟩
              case measure => simp [intOf]; omega
            · have hq : (a == id) = false := by simpa using hai
              have h1 : Maps.has ((Dm xs).del (.int .i64 id)) (.int .i64 a) = true := by rw [has_del_other (by simpa using hai)]; exact hhas
              have h2 : valAt ((Dm xs).del (.int .i64 id)) (.int .i64 a) = valAt (Dm xs) (.int .i64 a) := valAt_del (by simpa using hai)
              clear hai hhas
              have hlk := fun o => look_fail (mr.alloc o) hka
              have hlk1 := look_fail_ok nr hka
              go_wp2_with (first | (go_at_call 17; refine (sameFail_eq _ _ _ _ rfl rfl _).mono ?_; rintro e w' ⟨rfl, hbx⟩))
              have hbr2 : Below w8.heap.size w8 w' := (hbr.alloc szr _).trans (hbx.mono (by simp; omega))
              clear hbx hlk hlk1 mr nr c0
              go_wp2
              go_roundw
              case rel => exact ⟨k + 1, by omega, by go_num, hbr2⟩
              case measure => simp [intOf]; omega
          · go_wp2
            go_ret
            exact ⟨rfl, b07.trans ((b8.trans (hbr.mono b8.size)).mono b07.size)⟩

end Go.Proofs.Qxb6616110aMods
