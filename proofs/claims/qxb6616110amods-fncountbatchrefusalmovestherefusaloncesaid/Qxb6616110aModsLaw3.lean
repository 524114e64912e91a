import Derived.Test.Qxb6616110aModsCount
namespace Go.Proofs.Qxb6616110aMods
open Go.RowKit Go.Maps

/-- A new flight's cells. -/
def flightCells (m0 m4 m6 : Option Nat) (s1 s2 s3 s7 : Value) (n5 : Int) : Array Value :=
  #[.chan none, .int .i64 0, .map none, .map m6, .int .i64 0, .int .i64 0, .int .i64 0, .int .i64 0, .bool false, .map none, .map none, .map none, .map none, .map m0, .map none, .slice none 0 0, s1, .map m4, s7, s2, s3, .int .i64 n5, .int .i64 0, .string ⟨#[]⟩]

/-- w' is w and one block more, which holds cs. -/
structure Laid (w w' : World) (cs : Array Value) (t : TypeId) : Prop where
  blk : w'.heap[w.heap.size]? = some (.cells cs t (0, 0))
  below : Below w.heap.size w w'
  size : w'.heap.size = w.heap.size + 1

set_option maxHeartbeats 400000 in
theorem newFlight_any (m0 m4 m6 : Option Nat) (a1 a2 a3 a7 : Option Addr) (l1 l2 l3 l7 c1 c2 c3 c7 : Nat) (n5 : Int) (w : World) :
    Calls Trym.prog 12 #[.map m0, .slice a1 l1 c1, .slice a2 l2 c2, .slice a3 l3 c3, .map m4, .int .i64 n5, .map m6, .slice a7 l7 c7] w fun e w' => e = .returned (.pointer (some ⟨w.heap.size, 0, none⟩)) ∧ Laid w w' (flightCells m0 m4 m6 (.slice a1 l1 c1) (.slice a2 l2 c2) (.slice a3 l3 c3) (.slice a7 l7 c7) n5) 68 := by
  go_enter Trym.func12, Trym.ntmps12
  go_wp2
  go_ret
  exact ⟨rfl, heap_alloc_new w _, (Below.refl _ _).alloc (Nat.le_refl _) _, by simp⟩

theorem flat_get (ys : List (Int × ByteArray)) (ex : List Value) : ∀ k, k < ys.length → (flat ys ++ ex)[k * 2]? = some (.int .i64 (ys.getD k (0, ByteArray.empty)).1) ∧ (flat ys ++ ex)[k * 2 + 1]? = some (.string (ys.getD k (0, ByteArray.empty)).2) := by
  induction ys with
  | nil => intro k hk; simp at hk
  | cons y r ih =>
    intro k hk
    cases k with
    | zero => simp [flat]
    | succ k =>
      have := ih k (by simpa using hk)
      have e : (k + 1) * 2 = k * 2 + 1 + 1 := by omega
      simp only [flat, List.flatMap_cons, List.cons_append, List.nil_append, e, List.getElem?_cons_succ] at this ⊢
      simpa using this
theorem flat_length (ys : List (Int × ByteArray)) : (flat ys).length = ys.length * 2 := by
  induction ys with
  | nil => rfl
  | cons y r ih => simp only [flat, List.flatMap_cons, List.length_append, List.length_cons, List.length_nil] at ih ⊢; omega

theorem row_fails {w : World} {B n vc : Nat} {vo : Option Addr} {ys : List (Int × ByteArray)} {ex : List Value} (h : w.ownsRow B 39 2 (.slice vo n vc) n (flat ys ++ ex)) : 0 < ys.length → ∃ g, vo = some ⟨g, 0, none⟩ ∧ FailsAt w g 0 ys := by
  intro hp
  have hl := h.1
  rw [List.length_append, flat_length] at hl
  rcases h.2 with ⟨_, h0⟩ | ⟨g, cap, cur, e, _, hg, _⟩
  · omega
  · simp only [Value.slice.injEq] at e
    obtain ⟨rfl, _, rfl⟩ := e
    refine ⟨g, rfl, (Array.getElem?_eq_some_iff.1 hg).1, fun j hj => ?_, fun j hj => ?_⟩
    · rw [Nat.zero_add, h.cellAt (j * 2) (by omega)]
      exact (flat_get ys ex j hj).1
    · rw [Nat.zero_add, h.cellAt (j * 2 + 1) (by omega)]
      exact (flat_get ys ex j hj).2

theorem row_last {w : World} {B vc g : Nat} {ys : List (Int × ByteArray)} {a : Int} {s : ByteArray} (h : w.ownsRow B 39 2 (.slice (some ⟨g, 0, none⟩) (ys.length + 1) vc) (ys.length + 1) (flat ys ++ [.int .i64 a, .string s])) :
    g < w.heap.size ∧ w.cell? ⟨g, ys.length * 2, none⟩ = some (.int .i64 a) ∧ w.cell? ⟨g, ys.length * 2 + 1, none⟩ = some (.string s) := by
  refine ⟨(h.lt g rfl).2, ?_, ?_⟩
  · rw [h.cellAt _ (by omega), List.getElem?_append_right (by rw [flat_length]; omega), flat_length]; simp
  · rw [h.cellAt _ (by omega), List.getElem?_append_right (by rw [flat_length]; omega), flat_length, show ys.length * 2 + 1 - ys.length * 2 = 1 by omega]; simp

theorem isMap_Dm (xs : List (Int × ByteArray)) : ∀ m : DataW Value, IsMap m → IsMap (xs.foldl (fun m x => m.put (.int .i64 x.1) (.held (failV x.1 x.2))) m) := by
  induction xs with
  | nil => intro m hm; exact hm
  | cons x r ih => intro m hm; exact ih _ (hm.put _ _)
theorem has_Dm_fold (xs : List (Int × ByteArray)) : ∀ (m : DataW Value) (a : Int), IsMap m → (Maps.has m (.int .i64 a) = true ∨ ∃ x ∈ xs, x.1 = a) → Maps.has (xs.foldl (fun m x => m.put (.int .i64 x.1) (.held (failV x.1 x.2))) m) (.int .i64 a) = true := by
  induction xs with
  | nil =>
    intro m a hm h
    rcases h with h | ⟨x, hx, _⟩
    · exact h
    · simp at hx
  | cons x r ih =>
    intro m a hm h
    refine ih _ a (hm.put _ _) ?_
    by_cases e : a = x.1
    · left
      rw [e]
      exact has_put_same hm (by trivial) _
    · rcases h with h | ⟨y, hy, he⟩
      · left
        rw [has_put_other (by simpa using e)]
        exact h
      · right
        rcases List.mem_cons.1 hy with rfl | hy
        · exact absurd he.symm e
        · exact ⟨y, hy, he⟩
theorem has_Dm {xs : List (Int × ByteArray)} {k : Nat} (h : k < xs.length) : Maps.has (Dm xs) (.int .i64 (xs.getD k (0, ByteArray.empty)).1) = true := by
  refine has_Dm_fold xs _ _ ⟨[], rfl⟩ (Or.inr ⟨_, ?_, rfl⟩)
  rw [List.getD, List.getElem?_eq_getElem h]
  exact List.getElem_mem h
theorem look_fail {w : World} {b n : Nat} {D : DataW Value} (h : w.ownsMap Trym.prog 2 failR b n D) {key : Value} {kl : Lit} (hkey : keyOf Trym.prog 2 key = some kl) :
    (Instr.lookup 25 (.map (some b)) key false).run Trym.prog w = .ok (.agg #[.int .i64 (valAt D kl).1, .string (valAt D kl).2]) w := by
  obtain ⟨v, ps, hrun, hv⟩ := h.lookup law2 Trym.underlying25 (zero28 w) (zd := zeroFail) (zp := []) rfl hkey
  obtain ⟨a, s, rfl, hz⟩ := failR_inv hv
  rw [valAt_of (congrArg Prod.fst hz)]
  exact hrun
theorem valAt_del {D : DataW Value} {k k' : Lit} (h : k' ≠ k) : valAt (D.del k) k' = valAt D k' := by
  unfold valAt; rw [atKey_del_other h]

theorem FailsV.later {w w' : World} {ao : Option Addr} {xs : List (Int × ByteArray)} (h : FailsV w ao xs) (hb : Below w.heap.size w w') : FailsV w' ao xs := by
  intro hp
  obtain ⟨b, off, e, f⟩ := h hp
  exact ⟨b, off, e, Nat.lt_of_lt_of_le f.lt hb.size, fun j hj => (hb.cell (by exact f.lt)).trans (f.id j hj), fun j hj => (hb.cell (by exact f.lt)).trans (f.err j hj)⟩
theorem ownsMap_later {w w' : World} {b n : Nat} {D : DataW Value} {k : TypeId} {R : Value → Option (DataW Value × List MemPlace)} (h : w.ownsMap Trym.prog k R b n D) {B : Nat} (hb : Below B w w') (hB : b < B) : w'.ownsMap Trym.prog k R b n D := by
  obtain ⟨es, clock, h1, r⟩ := h
  exact ⟨es, clock, (hb.block b hB).trans h1, r⟩

theorem ownsRow_base {w : World} {B B' : Nat} {e : TypeId} {size n : Nat} {v : Value} {xs : List Value} (h : w.ownsRow B e size v n xs) (hB : B' ≤ B) : w.ownsRow B' e size v n xs := by
  refine ⟨h.1, ?_⟩
  rcases h.2 with h0 | ⟨g, cap, cur, e, hb, r⟩
  · exact .inl h0
  · exact .inr ⟨g, cap, cur, e, Nat.le_trans hB hb, r⟩

theorem St.start {w2 w3 w4 w5 : World} {D : DataW Value} {m n vc : Nat} {vo : Option Addr} {cs : List Value} {m4 m6 : Option Nat} {s2 s3 s7 : Value} {n5 : Int}
    (hm3 : w3.ownsMap Trym.prog 2 failR w2.heap.size m D) (hm : m ≤ 1048576) (hb4 : Below w3.heap.size w3 w4) (hrow : w4.ownsRow w3.heap.size 39 2 (.slice vo n vc) n cs)
    (hl : Laid w4 w5 (flightCells (some w2.heap.size) m4 m6 (.slice vo n vc) s2 s3 s7 n5) 68) : St w2.heap.size w4.heap.size w2.heap.size D n cs w5 := by
  have l3 := hm3.lt
  have l4 := hb4.size
  have l5 := hl.size
  have hg : w4.grownBy w5 none := ⟨hl.below.os, hl.below.tape, hl.below.output, hl.below.size, fun k hk _ => hl.below.block k hk⟩
  refine ⟨vo, vc, by omega, Nat.le_refl _, by omega, by omega, ?_, ?_, ?_, ownsMap_later (ownsMap_later (hm3.mono hm) hb4 l3) hl.below (by omega), ?_, ?_, ?_⟩
  · simp [World.cell?, hl.blk, flightCells]
  · simp [World.cell?, hl.blk, flightCells]
  · simp [World.frozen?, hl.blk]
  · exact ownsRow_base (hrow.kept hg (by cases hv : (Value.slice vo n vc).ownBlock <;> simp)) (by omega)
  · intro e
    have := (hrow.lt _ e).2
    omega
  · intro e
    have := (hrow.lt _ e).1
    omega

set_option maxHeartbeats 1000000 in
set_option maxRecDepth 100000 in
theorem law3 (ao bo : Option Addr) (ca cb : Nat) (xs ys : List (Int × ByteArray)) (id : Int) (w : World) (hv : FailsV w ao xs) (hu : FailsV w bo ys) (hw : WfIds xs) (wid : (Lit.int .i64 id).wf = true) (hl : xs.length ≤ 9223372036854775807) (hl' : ys.length ≤ 9223372036854775807) :
    Calls Trym.prog 3 #[.slice ao xs.length ca, .slice bo ys.length cb, .int .i64 id] w fun e w' => e = .returned (.bool true) ∧ Below w.heap.size w w' := by
  have hkey : keyOf Trym.prog 2 (.int .i64 id) = some (.int .i64 id) := keyOf_int_mk Trym.underlying2 wid
  go_enter Trym.func3, Trym.ntmps3
  go_wp2_with fail
  refine (zzBytes3_any ao bo ca cb xs ys id w hv hu hl hl').mono ?_
  rintro e w' ⟨⟨r, rfl, hr⟩, rfl⟩
  cases r
  · go_wp2
    go_ret
    exact ⟨rfl, Below.refl _ _⟩
  obtain ⟨hlx, hly⟩ := hr rfl
  clear hl hl'
  go_wp2_with fail
  refine (failsBytes_any ao ca xs 0 _ hv hlx).mono ?_
  rintro e w' ⟨⟨n1, rfl⟩, rfl⟩
  go_wp2_with fail
  · go_ret
    exact ⟨rfl, Below.refl _ _⟩
  refine (failsBytes_any bo cb ys n1 _ hu hly).mono ?_
  rintro e w' ⟨⟨n2, rfl⟩, rfl⟩
  go_wp2_with fail
  · go_ret
    exact ⟨rfl, Below.refl _ _⟩
  refine (lastByID_any ao ca xs _ hv hw hlx).mono ?_
  rintro e w1 ⟨rfl, hm0, hb1⟩
  go_wp2_with (first | (at_lookup; refine wpList_lookup_fail_ok _ rfl _ _ 25 rfl 2 28 law2 Trym.underlying25 (zero28 _) _ _ _ rfl hm0 _ _ rfl hkey ?_))
  -- the world behind 'want'
  have hw1 := hb1.size
  have lM0 := hm0.lt
  have hb2 : Below w.heap.size w (w1.alloc (.cells #[.int .i64 (valAt (Dm xs) (.int .i64 id)).1, .string (valAt (Dm xs) (.int .i64 id)).2] 28)) := hb1.alloc hw1 _
  have hm2 := hm0.alloc (.cells #[.int .i64 (valAt (Dm xs) (.int .i64 id)).1, .string (valAt (Dm xs) (.int .i64 id)).2] 28)
  have gb : (w1.alloc (.cells #[.int .i64 (valAt (Dm xs) (.int .i64 id)).1, .string (valAt (Dm xs) (.int .i64 id)).2] 28)).heap[w1.heap.size]? = some (.cells #[.int .i64 (valAt (Dm xs) (.int .i64 id)).1, .string (valAt (Dm xs) (.int .i64 id)).2] 28 (0, 0)) := heap_alloc_new w1 _
  have gs : (w1.alloc (.cells #[.int .i64 (valAt (Dm xs) (.int .i64 id)).1, .string (valAt (Dm xs) (.int .i64 id)).2] 28)).heap.size ≥ w1.heap.size + 1 := by simp
  generalize w1.alloc (.cells #[.int .i64 (valAt (Dm xs) (.int .i64 id)).1, .string (valAt (Dm xs) (.int .i64 id)).2] 28) = w2 at *
  have hv2 := hv.later hb2
  have hu2 := hu.later hb2
  refine (refusalMap_any ao ca xs w2 hv2 hw hlx).mono ?_
  rintro e w3 ⟨rfl, hm3, hb3⟩
  go_wp2_with fail
  have hu3 := hu2.later hb3
  have lM3 := hm3.lt
  refine (toFailures_any bo cb ys w3 hu3 hly).mono ?_
  rintro e w4 ⟨⟨vo, vc, rfl, hrow⟩, hb4⟩
  go_wp2_with fail
  refine (newFlight_any _ _ _ _ _ _ _ _ _ _ _ _ _ _ _ _ w4).mono ?_
  rintro e w5 ⟨rfl, hlaid⟩
  have st5 : St w2.heap.size w4.heap.size w2.heap.size (Dm xs) ys.length (flat ys) w5 := St.start hm3 hlx hb4 hrow hlaid
  have k0 : w2.cell? ⟨w1.heap.size, 0, none⟩ = some (.int .i64 (valAt (Dm xs) (.int .i64 id)).1) := by simp [World.cell?, gb]
  have k1 : w2.cell? ⟨w1.heap.size, 1, none⟩ = some (.string (valAt (Dm xs) (.int .i64 id)).2) := by simp [World.cell?, gb]
  have B25 : Below w2.heap.size w2 w5 := (hb3.trans (hb4.mono (Nat.le_of_lt lM3))).trans (hlaid.below.mono (by have := hb4.size; omega))
  clear hm0 hb1 gb hv2 hu2 hm3 hb3 hu3 hrow hb4 hlaid lM3
  by_cases hh : Maps.has (Dm xs) (.int .i64 id) = true
  · go_wp2_with fail
    refine (zzcount_yes _ _ _ _ _ _ w5 st5 hly id wid hh).mono ?_
    rintro e w6 ⟨rfl, b6, st6⟩
    go_wp2_with fail
    refine (zzcount_no _ _ _ _ _ _ w6 st6 id wid has_del_same).mono ?_
    rintro e w7 ⟨rfl, b7⟩
    have st7 := st6.later b7
    have sz6 : w2.heap.size ≤ w6.heap.size := by obtain ⟨_, _, t6⟩ := st6; exact t6.sz
    go_wp2_with fail
    obtain ⟨vo7, vc7, t7⟩ := st7
    obtain ⟨g7, rfl⟩ : ∃ g, vo7 = some ⟨g, 0, none⟩ := by
      rcases t7.row.2 with ⟨_, h0⟩ | ⟨g, cap, cur, e, _⟩
      · omega
      · simp only [Value.slice.injEq] at e
        exact ⟨g, e.1⟩
    have f7 := row_fails t7.row
    obtain ⟨lg7, e0, e1⟩ := row_last t7.row
    have b57 : Below w2.heap.size w2 w7 := B25.trans (b6.trans (b7.mono sz6))
    refine (zzfailed_any _ 0 _ w7 (by simpa using t7.c16)).mono ?_
    rintro e w' ⟨rfl, rfl⟩
    have b07 : Below w.heap.size w w7 := hb2.trans (b57.mono (by omega))
    have u7 : FailsV w7 bo ys := hu.later b07
    have m7 := ownsMap_later hm2 b57 (by omega)
    have x7 : FailsV w7 ao xs := hv.later b07
    have s13 := t7.c13
    have sm7 := t7.map
    have wk0 := (b57.cell (p := ⟨w1.heap.size, 0, none⟩) (by show w1.heap.size < _; omega)).trans k0
    have wk1 := (b57.cell (p := ⟨w1.heap.size, 1, none⟩) (by show w1.heap.size < _; omega)).trans k1
    have l27 : w2.heap.size ≤ w7.heap.size := b57.size
    have lF7 : w4.heap.size < w7.heap.size := World.block_lt_of_cell? w7 ⟨w4.heap.size, 13, none⟩ s13
    have hsd := size_del (k := .int .i64 id) (hm2.tidy law2)
    rw [hh, if_pos rfl] at hsd
    have hss := hm2.size_le
    clear st6 b6 b7 st5 B25 k0 k1 hu hv hm2 t7
    go_wp2_with fail
    go_loopw [16] (fun i wr => ∃ k : Nat, k ≤ ys.length ∧ i = .int .i64 k ∧ Below w7.heap.size w7 wr) (fun i _ => ys.length - (intOf i).toNat)
    case atStart => exact ⟨0, Nat.zero_le _, rfl, Below.refl _ _⟩
    case round =>
      obtain ⟨k, hk, rfl, hbr⟩ := hrel
      by_cases hlt : k < ys.length
      · obtain ⟨bb, off, rfl, hbf⟩ := u7 (by omega)
        obtain ⟨gg, ge, hgf⟩ := f7 (by omega)
        cases ge
        obtain ⟨a, ha⟩ : ∃ a, a = (ys.getD k (0, ByteArray.empty)).1 := ⟨_, rfl⟩
        obtain ⟨s, hs⟩ : ∃ s, s = (ys.getD k (0, ByteArray.empty)).2 := ⟨_, rfl⟩
        have c0 : wr.cell? ⟨bb, off + k * 2, none⟩ = some (.int .i64 a) := by rw [ha]; exact (hbr.cell (by exact hbf.lt)).trans (hbf.id k hlt)
        have c1 : wr.cell? ⟨bb, off + k * 2 + 1, none⟩ = some (.string s) := by rw [hs]; exact (hbr.cell (by exact hbf.lt)).trans (hbf.err k hlt)
        have d0 : wr.cell? ⟨g7, k * 2, none⟩ = some (.int .i64 a) := by have := hgf.id k hlt; rw [Nat.zero_add] at this; rw [ha]; exact (hbr.cell (by exact hgf.lt)).trans this
        have d1 : wr.cell? ⟨g7, k * 2 + 1, none⟩ = some (.string s) := by have := hgf.err k hlt; rw [Nat.zero_add] at this; rw [hs]; exact (hbr.cell (by exact hgf.lt)).trans this
        have hi0 : (0 : Int) ≤ (k : Int) := Int.natCast_nonneg _
        have hi1 : (k : Int) < (ys.length : Int) := by omega
        have hi2 : (k : Int) < (ys.length : Int) + 1 := by omega
        have lb : bb < wr.heap.size := Nat.lt_of_lt_of_le hbf.lt hbr.size
        have lg : g7 < wr.heap.size := Nat.lt_of_lt_of_le hgf.lt hbr.size
        clear ha hs wk0 wk1 e0 e1 m7 sm7 s13 hsd hss x7 u7 f7 hgf hbf
        go_wp2_with fail
        go_region_held3 (fun w' => w'.cell? ⟨bb, off + k * 2, none⟩ = some (.int .i64 a) ∧ w'.cell? ⟨bb, off + k * 2 + 1, none⟩ = some (.string s) ∧ w'.cell? ⟨g7, k * 2, none⟩ = some (.int .i64 a) ∧ w'.cell? ⟨g7, k * 2 + 1, none⟩ = some (.string s))
          (first | go_keep | (refine ⟨(hbx.cell (by exact lb)).trans c0, (hbx.cell (by exact lb)).trans c1, (hbx.cell (by exact lg)).trans d0, (hbx.cell (by exact lg)).trans d1⟩))
          (first | (go_at_call 17; refine (sameFail_eq a a s s rfl rfl _).mono ?_; rintro e w' ⟨rfl, hbx⟩))
        have hbr2 := hbr.drew.trans (hbx.mono hbr.size)
        clear c0 c1 d0 d1 hbx
        go_wp2
        go_roundw
        case rel => exact ⟨k + 1, by omega, by go_num, hbr2⟩
        case measure => simp [intOf]; omega
      · have hke : k = ys.length := by omega
        subst hke
        have c0 := (hbr.cell (p := ⟨w1.heap.size, 0, none⟩) (by show w1.heap.size < _; omega)).trans wk0
        have c1 := (hbr.cell (p := ⟨w1.heap.size, 1, none⟩) (by show w1.heap.size < _; omega)).trans wk1
        have d0 := (hbr.cell (p := ⟨g7, ys.length * 2, none⟩) (by exact lg7)).trans e0
        have d1 := (hbr.cell (p := ⟨g7, ys.length * 2 + 1, none⟩) (by exact lg7)).trans e1
        have hi0 : (0 : Int) ≤ (ys.length : Int) := Int.natCast_nonneg _
        have hi2 : (ys.length : Int) < (ys.length : Int) + 1 := by omega
        have lb : w1.heap.size < wr.heap.size := by have := hbr.size; omega
        have lg : g7 < wr.heap.size := Nat.lt_of_lt_of_le lg7 hbr.size
        go_wp2_with fail
        go_region_held3 (fun w' => w'.cell? ⟨w1.heap.size, 0, none⟩ = some (.int .i64 (valAt (Dm xs) (.int .i64 id)).1) ∧ w'.cell? ⟨w1.heap.size, 1, none⟩ = some (.string (valAt (Dm xs) (.int .i64 id)).2) ∧ w'.cell? ⟨g7, ys.length * 2, none⟩ = some (.int .i64 (valAt (Dm xs) (.int .i64 id)).1) ∧ w'.cell? ⟨g7, ys.length * 2 + 1, none⟩ = some (.string (valAt (Dm xs) (.int .i64 id)).2))
          (first | go_keep | (refine ⟨(hbx.cell (by exact lb)).trans c0, (hbx.cell (by exact lb)).trans c1, (hbx.cell (by exact lg)).trans d0, (hbx.cell (by exact lg)).trans d1⟩))
          (first | (go_at_call 17; refine (sameFail_eq _ _ _ _ rfl rfl _).mono ?_; rintro e w' ⟨rfl, hbx⟩))
        have b8 := hbr.drew.trans (hbx.mono hbr.size)
        clear c0 c1 d0 d1 hbx hbr wk0 wk1 e0 e1 f7 u7 lb lg hi0 hi2
        generalize w' = w8 at *
        have s13' := (b8.cell (p := ⟨w4.heap.size, 13, none⟩) (by exact lF7)).trans s13
        have m8 := ownsMap_later m7 b8 m7.lt
        have n8 := ownsMap_later sm7 b8 sm7.lt
        have x8 := x7.later b8
        clear m7 sm7 x7 s13
        have hds : Maps.has ((Dm xs).del (.int .i64 id)) (.int .i64 id) = false := has_del_same
        go_wp2_with fail
        refine (zzrefusals_any _ 0 _ w8 (by simpa using s13')).mono ?_
        rintro e w' ⟨rfl, rfl⟩
        go_wp2_with (first | (at_len; refine wpList_len_own _ rfl _ 32 rfl 2 39 Trym.underlying32 failR _ _ _ rfl n8 ?_) | (at_len; refine wpList_len_own _ rfl _ 25 rfl 2 28 Trym.underlying25 failR _ _ _ rfl m8 ?_) | (at_lookup; refine wpList_lookup_fail_ok _ rfl _ _ 32 rfl 2 39 law2 Trym.underlying32 (zero39 _) _ _ _ rfl n8 _ _ rfl hkey ?_))
        have b9 : Below w8.heap.size w8 (w8.alloc (.cells #[.int .i64 (valAt ((Dm xs).del (.int .i64 id)) (.int .i64 id)).1, .string (valAt ((Dm xs).del (.int .i64 id)) (.int .i64 id)).2] 39)) := (Below.refl _ _).alloc (Nat.le_refl _) _
        go_loopw [20] (fun i wr => ∃ k : Nat, k ≤ xs.length ∧ i = .int .i64 k ∧ Below w8.heap.size w8 wr) (fun i _ => xs.length - (intOf i).toNat)
        case atStart => exact ⟨0, Nat.zero_le _, rfl, b9⟩
        case round =>
          obtain ⟨k, hk, rfl, hbr⟩ := hrel
          by_cases hlt : k < xs.length
          · obtain ⟨bb, off, rfl, hbf⟩ := x8 (by omega)
            have hhas := has_Dm hlt
            have wfa := wf_at hw k
            obtain ⟨a, ha⟩ : ∃ a, a = (xs.getD k (0, ByteArray.empty)).1 := ⟨_, rfl⟩
            have c0 : wr.cell? ⟨bb, off + k * 2, none⟩ = some (.int .i64 a) := by rw [ha]; exact (hbr.cell (by exact hbf.lt)).trans (hbf.id k hlt)
            rw [← ha] at hhas wfa
            have hka : keyOf Trym.prog 2 (.int .i64 a) = some (.int .i64 a) := keyOf_int_mk Trym.underlying2 wfa
            have mr := ownsMap_later m8 hbr m8.lt
            have nr := ownsMap_later n8 hbr n8.lt
            have szr := hbr.size
            clear ha hsd hss hds x8 m8 n8 hbf b9 b8
            by_cases hai : a = id
            · have hq : (a == id) = true := by simpa using hai
              clear hai
              go_wp2
              go_roundw
              case rel => exact ⟨k + 1, by omega, by go_num, hbr⟩
              case measure => simp [intOf]; omega
            · have hq : (a == id) = false := by simpa using hai
              have h1 : Maps.has ((Dm xs).del (.int .i64 id)) (.int .i64 a) = true := by rw [has_del_other (by simpa using hai)]; exact hhas
              have h2 : valAt ((Dm xs).del (.int .i64 id)) (.int .i64 a) = valAt (Dm xs) (.int .i64 a) := valAt_del (by simpa using hai)
              clear hai hhas
              have hlk := fun o => look_fail (mr.alloc o) hka
              go_wp2_with (first | (at_lookup; refine wpList_lookup_fail_ok _ rfl _ _ 32 rfl 2 39 law2 Trym.underlying32 (zero39 _) _ _ _ rfl nr _ _ rfl hka ?_) | (go_at_call 17; refine (sameFail_eq _ _ _ _ rfl rfl _).mono ?_; rintro e w' ⟨rfl, hbx⟩))
              have hbr2 : Below w8.heap.size w8 w' := (hbr.alloc szr _).trans (hbx.mono (by simp; omega))
              clear hbx hlk mr nr c0
              go_wp2
              go_roundw
              case rel => exact ⟨k + 1, by omega, by go_num, hbr2⟩
              case measure => simp [intOf]; omega
          · go_wp2
            go_ret
            exact ⟨rfl, b07.trans ((b8.trans (hbr.mono b8.size)).mono b07.size)⟩
  · have hh : Maps.has (Dm xs) (.int .i64 id) = false := by simpa using hh
    go_wp2_with fail
    refine (zzcount_no _ _ _ _ _ _ w5 st5 id wid hh).mono ?_
    rintro e w6 ⟨rfl, b6⟩
    have st6 := st5.later b6
    go_wp2_with fail
    refine (zzcount_no _ _ _ _ _ _ w6 st6 id wid hh).mono ?_
    rintro e w7 ⟨rfl, b7⟩
    have st7 := st6.later b7
    have sz6 : w2.heap.size ≤ w6.heap.size := by obtain ⟨_, _, t6⟩ := st6; exact t6.sz
    go_wp2_with fail
    obtain ⟨vo7, vc7, t7⟩ := st7
    have t7row : w7.ownsRow w2.heap.size 39 2 (.slice vo7 ys.length vc7) ys.length (flat ys ++ []) := by rw [List.append_nil]; exact t7.row
    have f7 := row_fails t7row
    clear t7row
    have b57 : Below w2.heap.size w2 w7 := B25.trans ((b6.mono B25.size).trans (b7.mono sz6))
    refine (zzfailed_any _ 0 _ w7 (by simpa using t7.c16)).mono ?_
    rintro e w' ⟨rfl, rfl⟩
    have b07 : Below w.heap.size w w7 := hb2.trans (b57.mono (by omega))
    have u7 : FailsV w7 bo ys := hu.later b07
    have m7 := ownsMap_later hm2 b57 (by omega)
    have x7 : FailsV w7 ao xs := hv.later b07
    have s13 := t7.c13
    have sm7 : w7.ownsMap Trym.prog 2 failR w2.heap.size 1048576 ((Dm xs).del (.int .i64 id)) := by rw [del_of_not_has hh]; exact t7.map
    have wk0 := (b57.cell (p := ⟨w1.heap.size, 0, none⟩) (by show w1.heap.size < _; omega)).trans k0
    have wk1 := (b57.cell (p := ⟨w1.heap.size, 1, none⟩) (by show w1.heap.size < _; omega)).trans k1
    have l27 : w2.heap.size ≤ w7.heap.size := b57.size
    have lF7 : w4.heap.size < w7.heap.size := World.block_lt_of_cell? w7 ⟨w4.heap.size, 13, none⟩ s13
    have hsd := size_del (k := .int .i64 id) (hm2.tidy law2)
    rw [hh, if_neg (by simp)] at hsd
    have hss := hm2.size_le
    clear st6 b6 b7 st5 B25 k0 k1 hu hv hm2 t7
    go_wp2_with fail
    go_loopw [16] (fun i wr => ∃ k : Nat, k ≤ ys.length ∧ i = .int .i64 k ∧ Below w7.heap.size w7 wr) (fun i _ => ys.length - (intOf i).toNat)
    case atStart => exact ⟨0, Nat.zero_le _, rfl, Below.refl _ _⟩
    case round =>
      obtain ⟨k, hk, rfl, hbr⟩ := hrel
      by_cases hlt : k < ys.length
      · obtain ⟨bb, off, rfl, hbf⟩ := u7 (by omega)
        obtain ⟨g7, rfl, hgf⟩ := f7 (by omega)
        obtain ⟨a, ha⟩ : ∃ a, a = (ys.getD k (0, ByteArray.empty)).1 := ⟨_, rfl⟩
        obtain ⟨s, hs⟩ : ∃ s, s = (ys.getD k (0, ByteArray.empty)).2 := ⟨_, rfl⟩
        have c0 : wr.cell? ⟨bb, off + k * 2, none⟩ = some (.int .i64 a) := by rw [ha]; exact (hbr.cell (by exact hbf.lt)).trans (hbf.id k hlt)
        have c1 : wr.cell? ⟨bb, off + k * 2 + 1, none⟩ = some (.string s) := by rw [hs]; exact (hbr.cell (by exact hbf.lt)).trans (hbf.err k hlt)
        have d0 : wr.cell? ⟨g7, k * 2, none⟩ = some (.int .i64 a) := by have := hgf.id k hlt; rw [Nat.zero_add] at this; rw [ha]; exact (hbr.cell (by exact hgf.lt)).trans this
        have d1 : wr.cell? ⟨g7, k * 2 + 1, none⟩ = some (.string s) := by have := hgf.err k hlt; rw [Nat.zero_add] at this; rw [hs]; exact (hbr.cell (by exact hgf.lt)).trans this
        have hi0 : (0 : Int) ≤ (k : Int) := Int.natCast_nonneg _
        have hi1 : (k : Int) < (ys.length : Int) := by omega
        have hi2 : (k : Int) < (ys.length : Int) + 1 := by omega
        have lb : bb < wr.heap.size := Nat.lt_of_lt_of_le hbf.lt hbr.size
        have lg : g7 < wr.heap.size := Nat.lt_of_lt_of_le hgf.lt hbr.size
        clear ha hs wk0 wk1 m7 sm7 s13 hsd hss x7 u7 f7 hgf hbf
        go_wp2_with fail
        go_region_held3 (fun w' => w'.cell? ⟨bb, off + k * 2, none⟩ = some (.int .i64 a) ∧ w'.cell? ⟨bb, off + k * 2 + 1, none⟩ = some (.string s) ∧ w'.cell? ⟨g7, k * 2, none⟩ = some (.int .i64 a) ∧ w'.cell? ⟨g7, k * 2 + 1, none⟩ = some (.string s))
          (first | go_keep | (refine ⟨(hbx.cell (by exact lb)).trans c0, (hbx.cell (by exact lb)).trans c1, (hbx.cell (by exact lg)).trans d0, (hbx.cell (by exact lg)).trans d1⟩))
          (first | (go_at_call 17; refine (sameFail_eq a a s s rfl rfl _).mono ?_; rintro e w' ⟨rfl, hbx⟩))
        have hbr2 := hbr.drew.trans (hbx.mono hbr.size)
        clear c0 c1 d0 d1 hbx
        go_wp2
        go_roundw
        case rel => exact ⟨k + 1, by omega, by go_num, hbr2⟩
        case measure => simp [intOf]; omega
      · have hke : k = ys.length := by omega
        subst hke
        have b8 := hbr.drew
        clear hbr wk0 wk1 f7 u7
        go_wp2_with fail
        go_region
        go_wp2_with fail
        generalize wr.drew = w8 at *
        have s13' := (b8.cell (p := ⟨w4.heap.size, 13, none⟩) (by exact lF7)).trans s13
        have m8 := ownsMap_later m7 b8 m7.lt
        have n8 := ownsMap_later sm7 b8 sm7.lt
        have x8 := x7.later b8
        clear m7 sm7 x7 s13
        have hds : Maps.has ((Dm xs).del (.int .i64 id)) (.int .i64 id) = false := has_del_same
        go_wp2_with fail
        refine (zzrefusals_any _ 0 _ w8 (by simpa using s13')).mono ?_
        rintro e w' ⟨rfl, rfl⟩
        go_wp2_with (first | (at_len; refine wpList_len_own _ rfl _ 32 rfl 2 39 Trym.underlying32 failR _ _ _ rfl n8 ?_) | (at_len; refine wpList_len_own _ rfl _ 25 rfl 2 28 Trym.underlying25 failR _ _ _ rfl m8 ?_) | (at_lookup; refine wpList_lookup_fail_ok _ rfl _ _ 32 rfl 2 39 law2 Trym.underlying32 (zero39 _) _ _ _ rfl n8 _ _ rfl hkey ?_))
        have b9 : Below w8.heap.size w8 (w8.alloc (.cells #[.int .i64 (valAt ((Dm xs).del (.int .i64 id)) (.int .i64 id)).1, .string (valAt ((Dm xs).del (.int .i64 id)) (.int .i64 id)).2] 39)) := (Below.refl _ _).alloc (Nat.le_refl _) _
        go_loopw [20] (fun i wr => ∃ k : Nat, k ≤ xs.length ∧ i = .int .i64 k ∧ Below w8.heap.size w8 wr) (fun i _ => xs.length - (intOf i).toNat)
        case atStart => exact ⟨0, Nat.zero_le _, rfl, b9⟩
        case round =>
          obtain ⟨k, hk, rfl, hbr⟩ := hrel
          by_cases hlt : k < xs.length
          · obtain ⟨bb, off, rfl, hbf⟩ := x8 (by omega)
            have hhas := has_Dm hlt
            have wfa := wf_at hw k
            obtain ⟨a, ha⟩ : ∃ a, a = (xs.getD k (0, ByteArray.empty)).1 := ⟨_, rfl⟩
            have c0 : wr.cell? ⟨bb, off + k * 2, none⟩ = some (.int .i64 a) := by rw [ha]; exact (hbr.cell (by exact hbf.lt)).trans (hbf.id k hlt)
            rw [← ha] at hhas wfa
            have hka : keyOf Trym.prog 2 (.int .i64 a) = some (.int .i64 a) := keyOf_int_mk Trym.underlying2 wfa
            have mr := ownsMap_later m8 hbr m8.lt
            have nr := ownsMap_later n8 hbr n8.lt
            have szr := hbr.size
            clear ha hsd hss hds x8 m8 n8 hbf b9 b8
            by_cases hai : a = id
            · have hq : (a == id) = true := by simpa using hai
              clear hai
              go_wp2
              go_roundw
              case rel => exact ⟨k + 1, by omega, by go_num, hbr⟩
              case measure => simp [intOf]; omega
            · have hq : (a == id) = false := by simpa using hai
              have h1 : Maps.has ((Dm xs).del (.int .i64 id)) (.int .i64 a) = true := by rw [has_del_other (by simpa using hai)]; exact hhas
              have h2 : valAt ((Dm xs).del (.int .i64 id)) (.int .i64 a) = valAt (Dm xs) (.int .i64 a) := valAt_del (by simpa using hai)
              clear hai hhas
              have hlk := fun o => look_fail (mr.alloc o) hka
              go_wp2_with (first | (at_lookup; refine wpList_lookup_fail_ok _ rfl _ _ 32 rfl 2 39 law2 Trym.underlying32 (zero39 _) _ _ _ rfl nr _ _ rfl hka ?_) | (go_at_call 17; refine (sameFail_eq _ _ _ _ rfl rfl _).mono ?_; rintro e w' ⟨rfl, hbx⟩))
              have hbr2 : Below w8.heap.size w8 w' := (hbr.alloc szr _).trans (hbx.mono (by simp; omega))
              clear hbx hlk mr nr c0
              go_wp2
              go_roundw
              case rel => exact ⟨k + 1, by omega, by go_num, hbr2⟩
              case measure => simp [intOf]; omega
          · go_wp2
            go_ret
            exact ⟨rfl, b07.trans ((b8.trans (hbr.mono b8.size)).mono b07.size)⟩

end Go.Proofs.Qxb6616110aMods
