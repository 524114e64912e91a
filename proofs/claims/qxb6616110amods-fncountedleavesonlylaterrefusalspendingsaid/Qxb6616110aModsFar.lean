/-
  (*flight).countBatchRefusal, with a sharper word on what it leaves alone.
-/
import Derived.Test.Qxb6616110aModsFlight
import Derived.Deep.RegionLaw
import Derived.Deep.AppendLies
namespace Go.Proofs.Qxb6616110aMods
open Go.RowKit Go.Maps

/-- Nothing has turned but the flight's cell 16, its map of refusals, and its row of pending failures. -/
structure Far (F M : Nat) (row : Option Nat) (w w' : World) : Prop where
  blk : ∀ j, j < w.heap.size → j ≠ F → j ≠ M → row ≠ some j → w'.heap[j]? = w.heap[j]?
  cel : ∀ o, o ≠ 16 → w'.cell? ⟨F, o, none⟩ = w.cell? ⟨F, o, none⟩

theorem far_close {B F M n : Nat} {D : DataW Value} {xs : List Value} {w wx w1 w2 : World} {vo : Option Addr} {vc gg cap : Nat} {o : Obj}
    (h : StV B F M D n xs w vo vc) (lF : F < w.heap.size) (hb : Below w.heap.size w wx)
    (hgrow : (wx.alloc o).drew.grownBy w1 (Value.slice vo n vc).ownBlock)
    (ht : (w1.setCell ⟨F, 16, none⟩ (.slice (some ⟨gg, 0, none⟩) (n + 1) cap)).mapTurned w2 M) : Far F M (Value.slice vo n vc).ownBlock w w2 := by
  have g2 := ht.grown
  have hs := hb.size
  have s1 := hgrow.size
  simp at s1
  have neM : some F ≠ some M := fun e => h.ne (by cases e; rfl)
  refine ⟨fun j hj hF hM hr => ?_, fun q hq => ?_⟩
  · rw [g2.block j (by simp; omega) (by simpa using hM), Below.heap_setCell _ _ _ _ (by simpa using hF), hgrow.block j (by simp; omega) (fun e => hr e.symm)]
    exact (Below.heap_alloc wx o j (by omega)).trans (hb.block j hj)
  · rw [g2.cell_far ⟨F, q, none⟩ (by show F < _; simp; omega) neM, World.cell?_setCell_other _ _ _ _ (fun e => hq ((Addr.mk.inj e).2.1).symm), hgrow.cell_far ⟨F, q, none⟩ (by show F < _; simp; omega) (Ne.symm h.rF)]
    exact (((Below.refl _ _).alloc (Nat.le_refl _) o).cell (by show F < _; omega)).trans (hb.cell (by exact lF))

set_option maxHeartbeats 800000 in
set_option maxRecDepth 100000 in
theorem count_yes_far (B F M : Nat) (D : DataW Value) (n : Nat) (xs : List Value) (w : World) (vo : Option Addr) (vc : Nat) (h : StV B F M D n xs w vo vc) (hn : n ≤ 1048576) (id : Int) (wid : (Lit.int .i64 id).wf = true) (hh : Maps.has D (.int .i64 id) = true) :
    Calls Trym.prog 31 #[.pointer (some ⟨F, 0, none⟩), .int .i64 id] w fun e w' => e = .returned (.bool true) ∧ Far F M (Value.slice vo n vc).ownBlock w w' ∧ Below B w w' ∧ St B F M (D.del (.int .i64 id)) (n + 1) (xs ++ [.int .i64 (valAt D (.int .i64 id)).1, .string (valAt D (.int .i64 id)).2]) w' := by
  have h13 := h.c13
  have hkey : keyOf Trym.prog 2 (.int .i64 id) = some (.int .i64 id) := keyOf_int_mk Trym.underlying2 wid
  obtain ⟨i0, hi0, hz0, hz1, hz2⟩ := info_parts Trym.info39
  generalize hva : (valAt D (.int .i64 id)).1 = va
  generalize hvs : (valAt D (.int .i64 id)).2 = vs
  have lF : F < w.heap.size := World.block_lt_of_cell? w ⟨F, 13, none⟩ h13
  have lM := h.map.lt
  have hb : Below w.heap.size w (w.alloc (.cells #[.int .i64 va, .string vs] 39)) := (Below.refl _ _).alloc (Nat.le_refl _) _
  have gb : (w.alloc (.cells #[.int .i64 va, .string vs] 39)).heap[w.heap.size]? = some (.cells #[.int .i64 va, .string vs] 39 (0, 0)) := heap_alloc_new w _
  have g13 : (w.alloc (.cells #[.int .i64 va, .string vs] 39)).cell? ⟨F, 13, none⟩ = some (.map (some M)) := (hb.cell (by exact lF)).trans h.c13
  have g16 : (w.alloc (.cells #[.int .i64 va, .string vs] 39)).cell? ⟨F, 16, none⟩ = some (.slice vo n vc) := (hb.cell (by exact lF)).trans h.c16
  have gf : (w.alloc (.cells #[.int .i64 va, .string vs] 39)).frozen? ⟨F, 16, none⟩ = false := (hb.frozen (by exact lF)).trans h.f16
  have gm := h.map.alloc (.cells #[.int .i64 va, .string vs] 39)
  have gr := h.row.alloc (.cells #[.int .i64 va, .string vs] 39)
  have gs : (w.alloc (.cells #[.int .i64 va, .string vs] 39)).heap.size ≥ w.heap.size + 1 := by simp
  have HV : Hid ((valAt D (.int .i64 id)).1 = va ∧ (valAt D (.int .i64 id)).2 = vs) := ⟨hva, hvs⟩
  have HB := h.sz
  go_enter Trym.func31, Trym.ntmps31
  go_wp2_with (first | (at_lookup; refine wpList_lookup_fail_ok _ rfl _ _ 32 rfl 2 39 law2 Trym.underlying32 (zero39 _) M 1048576 D rfl h.map _ _ rfl hkey ?_))
  clear hva hvs
  generalize w.alloc (.cells #[.int .i64 va, .string vs] 39) = wx at *
  have k0 : wx.cell? ⟨w.heap.size, 0, none⟩ = some (.int .i64 va) := by simp [World.cell?, gb]
  have k1 : wx.cell? ⟨w.heap.size, 1, none⟩ = some (.string vs) := by simp [World.cell?, gb]
  have gfa : ∀ o, (wx.alloc o).frozen? ⟨F, 16, none⟩ = false := fun o => (((Below.refl _ _).alloc (Nat.le_refl _) o).frozen (by show F < _; omega)).trans gf
  have rF := h.rF
  have rM := h.rM
  have rN : (Value.slice vo n vc).ownBlock ≠ some w.heap.size := fun e => by have := (h.row.lt _ e).2; omega
  have gca : ∀ o, (wx.alloc o).cell? ⟨F, 16, none⟩ = some (.slice vo n vc) := fun o => (((Below.refl _ _).alloc (Nat.le_refl _) o).cell (by show F < _; omega)).trans g16
  go_region_law
    ((refine step_append_lies _ (by rfl) _ _ _ (by rfl) B 39 i0 _ 2 24 Trym.underlying34 hi0 hz0 hz1 hz2 rfl (by omega) (.slice vo n vc) n xs (by rfl) ((gr.alloc _).drew)
        ⟨wx.heap.size, 0, none⟩ 1 1 [.int .i64 va, .string vs] (by rfl) (by rfl) (World.news_of_block (cs := #[.int .i64 va, .string vs]) (t := 39) (fr := (0, 0)) (heap_alloc_new wx _)) (by simp [Value.oneCell'])
        (by omega) (by unfold maxLen; omega) (by omega) (by simp; omega) (wx.heap.size + 1) (by simp) ?_; intro gg cap w1 hown1 hgrow hat hlt;
      have q16 : w1.cell? ⟨F, 16, none⟩ = some (.slice vo n vc) := (hgrow.cell_far _ (by show F < _; simp; omega) (Ne.symm rF)).trans (gca _);
      have qf : w1.frozen? ⟨F, 16, none⟩ = false := (hgrow.frozen_far _ (by show F < _; simp; omega) (Ne.symm rF)).trans (gfa _)))
  all_goals
    have q13 : w1.cell? ⟨F, 13, none⟩ = some (.map (some M)) :=
      (hgrow.cell_far ⟨F, 13, none⟩ (by show F < _; simp; omega) (Ne.symm rF)).trans ((((Below.refl _ _).alloc (Nat.le_refl _) _).cell (by show F < _; omega)).trans g13)
    have hmap1 := (((gm.alloc (.cells #[.int .i64 va, .string vs] 39)).drew).kept hgrow (Ne.symm rM)).setCell (a := ⟨F, 16, none⟩) h.ne (.slice (some ⟨gg, 0, none⟩) (n + 1) cap)
    have HH : Hid (∀ w2 : World, w2.ownsMap Trym.prog 2 failR M 1048576 (D.del (.int .i64 id)) → (w1.setCell ⟨F, 16, none⟩ (.slice (some ⟨gg, 0, none⟩) (n + 1) cap)).mapTurned w2 M → Far F M (Value.slice vo n vc).ownBlock w w2 ∧ Below B w w2 ∧ St B F M (D.del (.int .i64 id)) (n + 1) (xs ++ [.int .i64 va, .string vs]) w2) :=
      fun w2 hm2 ht2 => ⟨far_close h lF hb hgrow ht2, count_close h lF hb gr hgrow hat hown1 hm2 ht2⟩
    clear hgrow hat hown1 gr gm gfa gca g16 gf gb k0 k1 hb g13 q16 qf
    go_wp2_with (first | (at_delete; refine wpList_delete_own _ rfl _ _ 32 2 rfl 39 law2 Trym.underlying32 _ M 1048576 D rfl hmap1 _ _ rfl hkey ?_; intro w2 hm2 ht2))
    go_ret
    exact ⟨rfl, HH.out w2 hm2 ht2⟩

set_option maxHeartbeats 400000 in
theorem zzcount_yes_far (B F M : Nat) (D : DataW Value) (n : Nat) (xs : List Value) (w : World) (vo : Option Addr) (vc : Nat) (h : StV B F M D n xs w vo vc) (hn : n ≤ 1048576) (id : Int) (wid : (Lit.int .i64 id).wf = true) (hh : Maps.has D (.int .i64 id) = true) :
    Calls Trym.prog 15 #[.pointer (some ⟨F, 0, none⟩), .int .i64 id] w fun e w' => e = .returned (.bool true) ∧ Far F M (Value.slice vo n vc).ownBlock w w' ∧ Below B w w' ∧ St B F M (D.del (.int .i64 id)) (n + 1) (xs ++ [.int .i64 (valAt D (.int .i64 id)).1, .string (valAt D (.int .i64 id)).2]) w' := by
  go_enter Trym.func15, Trym.ntmps15
  go_wp2_with fail
  refine (count_yes_far B F M D n xs _ vo vc h hn id wid hh).mono ?_
  rintro e w' ⟨rfl, hf, hb, hs⟩
  go_wp2
  go_ret
  exact ⟨rfl, hf, hb, hs⟩

end Go.Proofs.Qxb6616110aMods
