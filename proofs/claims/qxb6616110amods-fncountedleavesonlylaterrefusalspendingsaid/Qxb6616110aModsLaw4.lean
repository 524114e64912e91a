/-
  The walk of FnCountedLeavesOnlyLaterRefusalsPending.
-/
import Derived.Test.Qxb6616110aModsCounted
import Derived.Test.Qxb6616110aModsFar
namespace Go.Proofs.Qxb6616110aMods
open Go.RowKit Go.Maps

theorem row_none {w : World} {B : Nat} {e : TypeId} {size n vc : Nat} {vo : Option Addr} {cs : List Value} (h : w.ownsRow B e size (.slice vo n vc) n cs) : w.ownsRow B e size (.slice vo 0 vc) 0 [] := by
  refine ⟨by simp, ?_⟩
  rcases h.2 with ⟨h0, _⟩ | ⟨g, cap, cur, h0, hb, hg, hn, hm, hs, _⟩
  · simp only [Value.slice.injEq] at h0
    obtain ⟨rfl, _, rfl⟩ := h0
    exact .inl ⟨rfl, rfl⟩
  · simp only [Value.slice.injEq] at h0
    obtain ⟨rfl, _, rfl⟩ := h0
    exact .inr ⟨g, vc, cur, rfl, hb, hg, Nat.zero_le _, hm, hs, by simp⟩
theorem ownBlock_cut (vo : Option Addr) (n n' vc : Nat) : (Value.slice vo n vc).ownBlock = (Value.slice vo n' vc).ownBlock := by cases vo <;> rfl

theorem row_strs4 {w : World} {B n vc : Nat} {vo : Option Addr} {ys : List ByteArray} (h : w.ownsRow B 9 1 (.slice vo n vc) n (ys.map Value.string)) : StrsV w vo ys := by
  intro hp
  have hl := h.1
  rw [List.length_map] at hl
  rcases h.2 with ⟨_, h0⟩ | ⟨g, cap, cur, e, _, hg, _⟩
  · omega
  · simp only [Value.slice.injEq] at e
    obtain ⟨rfl, _, rfl⟩ := e
    refine ⟨g, 0, rfl, (Array.getElem?_eq_some_iff.1 hg).1, fun j hj => ?_⟩
    rw [Nat.zero_add, h.cellAt j (by omega), List.getElem?_map, List.getD, List.getElem?_eq_getElem hj]
    rfl

/-- All that is known when 'counted' has run. -/
structure Mid (w2 w6 w7 : World) (F : Nat) (D : DataW Value) (ys : List ByteArray) (vo co : Option Addr) (vc cc : Nat) : Prop where
  st : StV w2.heap.size F w2.heap.size D 0 [] w7 vo vc
  c20 : w7.cell? ⟨F, 20, none⟩ = some (.slice co ys.length cc)
  cool : w7.ownsRow w6.heap.size 9 1 (.slice co ys.length cc) ys.length (ys.map Value.string)
  low : Below w2.heap.size w2 w7
  lF : F < w6.heap.size
  lv : ∀ k, (Value.slice vo 0 vc).ownBlock = some k → k < w6.heap.size
  lM : w2.heap.size < w6.heap.size
  le : w6.heap.size ≤ w7.heap.size

theorem mid_of {w2 w3 w4 w5 w6 w7 : World} {D : DataW Value} {m n vc fc : Nat} {vo fo : Option Addr} {cs : List Value} {ys : List ByteArray}
    (hm3 : w3.ownsMap Trym.prog 2 failR w2.heap.size m D) (hm : m ≤ 1048576) (hb3 : Below w2.heap.size w2 w3) (hb4 : Below w3.heap.size w3 w4) (hrow : w4.ownsRow w3.heap.size 39 2 (.slice vo n vc) n cs)
    (hb5 : Below w4.heap.size w4 w5) (hl : Laid w5 w6 (flightCells (some w2.heap.size) none none (.slice vo n vc) (.slice fo ys.length fc) (.slice none 0 0) (.slice none 0 0) 0) 68)
    (hd : Done w5.heap.size vo vc ys w6 w7) : ∃ co cc, Mid w2 w6 w7 w5.heap.size D ys vo co vc cc := by
  obtain ⟨co, cc, c20, cool⟩ := hd.cool
  have l3 := hm3.lt
  have l4 := hb4.size
  have l5 := hb5.size
  have l6 := hl.size
  have l7 := hd.kept.size
  have l23 := hb3.size
  have g5 : w4.grownBy w5 none := ⟨hb5.os, hb5.tape, hb5.output, hb5.size, fun k hk _ => hb5.block k hk⟩
  have g6 : w5.grownBy w6 none := ⟨hl.below.os, hl.below.tape, hl.below.output, hl.below.size, fun k hk _ => hl.below.block k hk⟩
  have hn : (Value.slice vo n vc).ownBlock = none ∨ (Value.slice vo n vc).ownBlock ≠ none := by cases (Value.slice vo n vc).ownBlock <;> simp
  have hlt : ∀ k, (Value.slice vo n vc).ownBlock = some k → w3.heap.size ≤ k ∧ k < w4.heap.size := fun k hk => hrow.lt k hk
  have hnF : (Value.slice vo n vc).ownBlock = none ∨ (Value.slice vo n vc).ownBlock ≠ some w5.heap.size := Or.inr (fun e => by have := (hlt _ e).2; omega)
  have r7 : w7.ownsRow w3.heap.size 39 2 (.slice vo n vc) n cs := ((hrow.kept g5 hn).kept g6 hn).kept hd.kept hnF
  refine ⟨co, cc, ⟨by omega, Nat.le_refl _, by omega, by omega, ?_, hd.c16, hd.fz 16, ?_, ownsRow_base (row_none r7) (by omega), ?_, ?_⟩, c20, cool, ?_, by omega, ?_, by omega, l7⟩
  · rw [hd.same 13 (by omega)]
    simp [World.cell?, hl.blk, flightCells]
  · exact World.ownsMap.kept (ownsMap_later (ownsMap_later (ownsMap_later (hm3.mono hm) hb4 l3) hb5 (by omega)) hl.below (by omega)) hd.kept (by simp; omega)
  · rw [ownBlock_cut vo 0 n vc]
    exact fun e => by have := (hlt _ e).2; omega
  · rw [ownBlock_cut vo 0 n vc]
    exact fun e => by have := (hlt _ e).1; omega
  · exact (((hb3.trans (hb4.mono (by omega))).trans (hb5.mono (by omega))).trans (hl.below.mono (by omega))).grown hd.kept (by omega) (fun k hk => by cases hk; omega)
  · intro k hk
    rw [ownBlock_cut vo 0 n vc] at hk
    have := (hlt _ hk).2
    omega

theorem ready_of {w5 w6 : World} {m4 : Option Nat} {vo fo : Option Addr} {n vc fl fc : Nat}
    (hl : Laid w5 w6 (flightCells m4 none none (.slice vo n vc) (.slice fo fl fc) (.slice none 0 0) (.slice none 0 0) 0) 68) : Ready w5.heap.size vo fo n vc fl fc w6 :=
  ⟨by simp [World.cell?, hl.blk, flightCells], by simp [World.cell?, hl.blk, flightCells], by simp [World.cell?, hl.blk, flightCells], by simp [World.cell?, hl.blk, flightCells], by simp [World.cell?, hl.blk, flightCells], fun o => by simp [World.frozen?, hl.blk]⟩

/-- The cooling aggregates behind a refusal that was moved. -/
theorem cool_far {w2 w6 w7 w8 : World} {F : Nat} {D : DataW Value} {ys : List ByteArray} {vo co : Option Addr} {vc cc : Nat} (h : Mid w2 w6 w7 F D ys vo co vc cc) (hf : Far F w2.heap.size (Value.slice vo 0 vc).ownBlock w7 w8) (hs : w7.heap.size ≤ w8.heap.size) :
    w8.cell? ⟨F, 20, none⟩ = some (.slice co ys.length cc) ∧ StrsV w8 co ys := by
  refine ⟨(hf.cel 20 (by omega)).trans h.c20, ?_⟩
  intro hp
  obtain ⟨g, off, rfl, hg⟩ := row_strs4 h.cool hp
  have hlt := h.cool.lt g rfl
  have lF := h.lF
  have lM := h.lM
  have hb : w8.heap[g]? = w7.heap[g]? := hf.blk g hlt.2 (by omega) (by omega) (fun e => by have := h.lv g e; omega)
  exact ⟨g, off, rfl, Nat.lt_of_lt_of_le hlt.2 hs, fun j hj => (World.cell?_of_block (w := w7) hb).trans (hg.at_ j hj)⟩

set_option maxHeartbeats 2000000 in
set_option maxRecDepth 100000 in
theorem law4 (ao bo co : Option Addr) (ca cb cc : Nat) (xs : List (Int × ByteArray)) (ys : List ByteArray) (zs : List (Int × ByteArray)) (id : Int) (w : World) (hx : FailsV w ao xs) (hu : StrsV w bo ys) (hv : FailsV w co zs) (hw : WfIds zs) (wid : (Lit.int .i64 id).wf = true)
    (hl : xs.length ≤ 9223372036854775807) (hl' : ys.length ≤ 9223372036854775807) (hl'' : zs.length ≤ 9223372036854775807) :
    Calls Trym.prog 4 #[.slice ao xs.length ca, .slice bo ys.length cb, .slice co zs.length cc, .int .i64 id] w fun e w' => e = .returned (.bool true) ∧ Below w.heap.size w w' := by
  have hkey : keyOf Trym.prog 2 (.int .i64 id) = some (.int .i64 id) := keyOf_int_mk Trym.underlying2 wid
  go_enter Trym.func4, Trym.ntmps4
  go_wp2_with fail
  refine (zzBytes19_any ao bo co ca cb cc xs ys zs id w hx hu hv hl hl' hl'').mono ?_
  rintro e w' ⟨⟨r, rfl, hr⟩, rfl⟩
  cases r
  · go_wp2
    go_ret
    exact ⟨rfl, Below.refl _ _⟩
  obtain ⟨hlx, hly, hlz⟩ := hr rfl
  clear hl hl' hl'' hr
  go_wp2_with fail
  refine (failsBytes_any ao ca xs 0 _ hx hlx).mono ?_
  rintro e w' ⟨⟨n1, rfl⟩, rfl⟩
  go_wp2_with fail
  · go_ret
    exact ⟨rfl, Below.refl _ _⟩
  refine (stringsBytes_any bo cb ys n1 _ hu hly).mono ?_
  rintro e w' ⟨⟨n2, rfl⟩, rfl⟩
  go_wp2_with fail
  · go_ret
    exact ⟨rfl, Below.refl _ _⟩
  refine (failsBytes_any co cc zs n2 _ hv hlz).mono ?_
  rintro e w' ⟨⟨n3, rfl⟩, rfl⟩
  go_wp2_with fail
  · go_ret
    exact ⟨rfl, Below.refl _ _⟩
  refine (lastByID_any co cc zs _ hv hw hlz).mono ?_
  rintro e w1 ⟨rfl, hm0, hb1⟩
  go_wp2_with (first | (at_lookup; refine wpList_lookup_fail_ok _ rfl _ _ 25 rfl 2 28 law2 Trym.underlying25 (zero28 _) _ _ _ rfl hm0 _ _ rfl hkey ?_))
  have hw1 := hb1.size
  have lM0 := hm0.lt
  have hb2 : Below w.heap.size w (w1.alloc (.cells #[.int .i64 (valAt (Dm zs) (.int .i64 id)).1, .string (valAt (Dm zs) (.int .i64 id)).2] 28)) := hb1.alloc hw1 _
  have gb : (w1.alloc (.cells #[.int .i64 (valAt (Dm zs) (.int .i64 id)).1, .string (valAt (Dm zs) (.int .i64 id)).2] 28)).heap[w1.heap.size]? = some (.cells #[.int .i64 (valAt (Dm zs) (.int .i64 id)).1, .string (valAt (Dm zs) (.int .i64 id)).2] 28 (0, 0)) := heap_alloc_new w1 _
  have gs : (w1.alloc (.cells #[.int .i64 (valAt (Dm zs) (.int .i64 id)).1, .string (valAt (Dm zs) (.int .i64 id)).2] 28)).heap.size ≥ w1.heap.size + 1 := by simp
  generalize w1.alloc (.cells #[.int .i64 (valAt (Dm zs) (.int .i64 id)).1, .string (valAt (Dm zs) (.int .i64 id)).2] 28) = w2 at *
  have k0 : w2.cell? ⟨w1.heap.size, 0, none⟩ = some (.int .i64 (valAt (Dm zs) (.int .i64 id)).1) := by simp [World.cell?, gb]
  have k1 : w2.cell? ⟨w1.heap.size, 1, none⟩ = some (.string (valAt (Dm zs) (.int .i64 id)).2) := by simp [World.cell?, gb]
  have hv2 := hv.later hb2
  have hx2 := hx.later hb2
  have hu2 := hu.later (Nat.le_refl _) hb2
  clear gb hm0 hb1 hv hx
  refine (refusalMap_any co cc zs w2 hv2 hw hlz).mono ?_
  rintro e w3 ⟨rfl, hm3, hb3⟩
  have hx3 := hx2.later hb3
  have hu3 := hu2.later (Nat.le_refl _) hb3
  go_wp2_with fail
  refine (toFailures_any ao ca xs w3 hx3 hlx).mono ?_
  rintro e w4 ⟨⟨vo, vc, rfl, hrow⟩, hb4⟩
  have hu4 := hu3.later (Nat.le_refl _) hb4
  go_wp2_with fail
  refine (cloneStrings_any bo cb ys w4 hu4 hly).mono ?_
  rintro e w5 ⟨⟨fo, fc, rfl, hrow5⟩, hb5⟩
  go_wp2_with fail
  refine (newFlight_any _ _ _ _ _ _ _ _ _ _ _ _ _ _ _ _ w5).mono ?_
  rintro e w6 ⟨rfl, hlaid⟩
  have hrd := ready_of hlaid
  have g6 : w5.grownBy w6 none := ⟨hlaid.below.os, hlaid.below.tape, hlaid.below.output, hlaid.below.size, fun k hk _ => hlaid.below.block k hk⟩
  have g5 : w4.grownBy w5 none := ⟨hb5.os, hb5.tape, hb5.output, hb5.size, fun k hk _ => hb5.block k hk⟩
  have r6 : w6.ownsRow 0 9 1 (.slice fo ys.length fc) ys.length (ys.map Value.string) := ownsRow_base (hrow5.kept g6 (by cases (Value.slice fo ys.length fc).ownBlock <;> simp)) (Nat.zero_le _)
  have q6 : w6.ownsRow 0 39 2 (.slice vo xs.length vc) xs.length (flat xs) := ownsRow_base ((hrow.kept g5 (by cases (Value.slice vo xs.length vc).ownBlock <;> simp)).kept g6 (by cases (Value.slice vo xs.length vc).ownBlock <;> simp)) (Nat.zero_le _)
  have HM : Hid (∀ w7, Done w5.heap.size vo vc ys w6 w7 → ∃ co cc, Mid w2 w6 w7 w5.heap.size (Dm zs) ys vo co vc cc) := fun w7 hd => mid_of hm3 hlz hb3 hb4 hrow hb5 hlaid hd
  clear hm3 hb3 hb4 hrow hb5 hlaid g5 g6 hrow5 hu4 hu3 hx3 hx2 hv2
  go_wp2_with fail
  refine (zzcounted_any w5.heap.size vo fo xs.length vc fc ys (flat xs) w6 hrd hly 0 r6 q6).mono ?_
  rintro e w7 ⟨rfl, hd⟩
  obtain ⟨ko, kc, mid⟩ := HM.out w7 hd
  clear HM hd hrd r6 q6
  have b27 := mid.low
  have l27 := b27.size
  have wk0 := (b27.cell (p := ⟨w1.heap.size, 0, none⟩) (by show w1.heap.size < _; omega)).trans k0
  have wk1 := (b27.cell (p := ⟨w1.heap.size, 1, none⟩) (by show w1.heap.size < _; omega)).trans k1
  clear k0 k1
  by_cases hh : Maps.has (Dm zs) (.int .i64 id) = true
  · go_wp2_with fail
    refine (zzcount_yes_far _ _ _ _ _ _ w7 vo vc mid.st (by omega) id wid hh).mono ?_
    rintro e w8 ⟨rfl, far, b8, st8⟩
    obtain ⟨q20, qs⟩ := cool_far mid far b8.size
    obtain ⟨vo8, vc8, t8⟩ := st8
    obtain ⟨g8, rfl⟩ : ∃ g, vo8 = some ⟨g, 0, none⟩ := by
      rcases t8.row.2 with ⟨_, h0⟩ | ⟨g, cap, cur, e, _⟩
      · omega
      · simp only [Value.slice.injEq] at e
        exact ⟨g, e.1⟩
    have e0 : w8.cell? ⟨g8, 0, none⟩ = some (.int .i64 (valAt (Dm zs) (.int .i64 id)).1) := by rw [t8.row.cellAt 0 (by omega)]; rfl
    have e1 : w8.cell? ⟨g8, 1, none⟩ = some (.string (valAt (Dm zs) (.int .i64 id)).2) := by rw [t8.row.cellAt 1 (by omega)]; rfl
    have lg : g8 < w8.heap.size := (t8.row.lt g8 rfl).2
    have s16 := t8.c16
    have b08 : Below w.heap.size w w8 := hb2.trans ((b27.trans b8).mono (by omega))
    have wk0' := (b8.cell (p := ⟨w1.heap.size, 0, none⟩) (by show w1.heap.size < _; omega)).trans wk0
    have wk1' := (b8.cell (p := ⟨w1.heap.size, 1, none⟩) (by show w1.heap.size < _; omega)).trans wk1
    have lb : w1.heap.size < w8.heap.size := by have := b8.size; omega
    have lF8 : w5.heap.size < w8.heap.size := World.block_lt_of_cell? w8 ⟨w5.heap.size, 16, none⟩ s16
    clear wk0 wk1 far mid t8 b8
    go_wp2_with fail
    refine (zzfailed_any _ 0 _ w8 (by simpa using s16)).mono ?_
    rintro e w' ⟨rfl, rfl⟩
    go_wp2_with fail
    go_region_held3 (fun w' => w'.cell? ⟨w1.heap.size, 0, none⟩ = some (.int .i64 (valAt (Dm zs) (.int .i64 id)).1) ∧ w'.cell? ⟨w1.heap.size, 1, none⟩ = some (.string (valAt (Dm zs) (.int .i64 id)).2) ∧ w'.cell? ⟨g8, 0, none⟩ = some (.int .i64 (valAt (Dm zs) (.int .i64 id)).1) ∧ w'.cell? ⟨g8, 1, none⟩ = some (.string (valAt (Dm zs) (.int .i64 id)).2))
      (first | go_keep | (refine ⟨(hbx.cell (by exact lb)).trans wk0', (hbx.cell (by exact lb)).trans wk1', (hbx.cell (by exact lg)).trans e0, (hbx.cell (by exact lg)).trans e1⟩))
      (first | (go_at_call 17; refine (sameFail_eq _ _ _ _ rfl rfl _).mono ?_; rintro e w' ⟨rfl, hbx⟩))
    generalize w' = w9 at *
    have b09 := b08.drew.trans (hbx.mono b08.size)
    have q20' := (hbx.cell (p := ⟨w5.heap.size, 20, none⟩) (by exact lF8)).trans q20
    have qs' : StrsV w9 ko ys := qs.later (B := w8.heap.size) (Nat.le_refl _) ⟨hbx.os, hbx.tape, hbx.output, hbx.size, hbx.block⟩
    clear e0 e1 wk0' wk1' hbx qs q20 s16
    have q20 := q20'
    have qs := qs'
    clear q20' qs'
    have u9 : StrsV w9 bo ys := hu.later (Nat.le_refl _) b09
    go_wp2_with fail
    refine (zzcooling_any _ 0 _ w9 (by simpa using q20)).mono ?_
    rintro e w' ⟨rfl, rfl⟩
    go_wp2_with fail
    go_loopw [17] (fun i wr => ∃ k : Nat, k ≤ ys.length ∧ i = .int .i64 k ∧ Below w9.heap.size w9 wr) (fun i _ => ys.length - (intOf i).toNat)
    case atStart => exact ⟨0, Nat.zero_le _, rfl, Below.refl _ _⟩
    case round =>
      obtain ⟨k, hk, rfl, hbr⟩ := hrel
      by_cases hlt : k < ys.length
      · obtain ⟨bb, off, rfl, hbf⟩ := u9 (by omega)
        obtain ⟨gg, goff, rfl, hgf⟩ := qs (by omega)
        obtain ⟨s, hs⟩ : ∃ s, s = ys.getD k noStr := ⟨_, rfl⟩
        have c0 : wr.cell? ⟨bb, off + k, none⟩ = some (.string s) := by rw [hs]; exact (hbr.cell (by exact hbf.lt)).trans (hbf.at_ k hlt)
        have d0 : wr.cell? ⟨gg, goff + k, none⟩ = some (.string s) := by rw [hs]; exact (hbr.cell (by exact hgf.lt)).trans (hgf.at_ k hlt)
        have hi0 : (0 : Int) ≤ (k : Int) := Int.natCast_nonneg _
        have hi1 : (k : Int) < (ys.length : Int) := by omega
        clear hs q20 hu
        go_wp2_with fail
        go_region
        go_wp2
        go_roundw
        case rel => exact ⟨k + 1, by omega, by go_num, hbr.drew⟩
        case measure => simp [intOf]; omega
      · go_wp2
        go_ret
        exact ⟨rfl, b09.trans (hbr.mono b09.size)⟩
  · have hh : Maps.has (Dm zs) (.int .i64 id) = false := by simpa using hh
    go_wp2_with fail
    refine (zzcount_no _ _ _ _ _ _ w7 ⟨vo, vc, mid.st⟩ id wid hh).mono ?_
    rintro e w9 ⟨rfl, b8⟩
    have s16 := (b8.cell (p := ⟨w5.heap.size, 16, none⟩) (by show w5.heap.size < _; have := mid.lF; have := mid.le; omega)).trans mid.st.c16
    have q20 := (b8.cell (p := ⟨w5.heap.size, 20, none⟩) (by show w5.heap.size < _; have := mid.lF; have := mid.le; omega)).trans mid.c20
    have qs := (row_strs4 mid.cool).later (Nat.le_refl _) b8
    have b09 : Below w.heap.size w w9 := hb2.trans ((b27.trans (b8.mono l27)).mono (by omega))
    clear wk0 wk1 mid b8
    go_wp2_with fail
    refine (zzfailed_any _ 0 _ w9 (by simpa using s16)).mono ?_
    rintro e w' ⟨rfl, rfl⟩
    have u9 : StrsV w9 bo ys := hu.later (Nat.le_refl _) b09
    go_wp2_with fail
    refine (zzcooling_any _ 0 _ w9 (by simpa using q20)).mono ?_
    rintro e w' ⟨rfl, rfl⟩
    go_wp2_with fail
    go_loopw [17] (fun i wr => ∃ k : Nat, k ≤ ys.length ∧ i = .int .i64 k ∧ Below w9.heap.size w9 wr) (fun i _ => ys.length - (intOf i).toNat)
    case atStart => exact ⟨0, Nat.zero_le _, rfl, Below.refl _ _⟩
    case round =>
      obtain ⟨k, hk, rfl, hbr⟩ := hrel
      by_cases hlt : k < ys.length
      · obtain ⟨bb, off, rfl, hbf⟩ := u9 (by omega)
        obtain ⟨gg, goff, rfl, hgf⟩ := qs (by omega)
        obtain ⟨s, hs⟩ : ∃ s, s = ys.getD k noStr := ⟨_, rfl⟩
        have c0 : wr.cell? ⟨bb, off + k, none⟩ = some (.string s) := by rw [hs]; exact (hbr.cell (by exact hbf.lt)).trans (hbf.at_ k hlt)
        have d0 : wr.cell? ⟨gg, goff + k, none⟩ = some (.string s) := by rw [hs]; exact (hbr.cell (by exact hgf.lt)).trans (hgf.at_ k hlt)
        have hi0 : (0 : Int) ≤ (k : Int) := Int.natCast_nonneg _
        have hi1 : (k : Int) < (ys.length : Int) := by omega
        clear hs q20 hu
        go_wp2_with fail
        go_region
        go_wp2
        go_roundw
        case rel => exact ⟨k + 1, by omega, by go_num, hbr.drew⟩
        case measure => simp [intOf]; omega
      · go_wp2
        go_ret
        exact ⟨rfl, b09.trans (hbr.mono b09.size)⟩

end Go.Proofs.Qxb6616110aMods
