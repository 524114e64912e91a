import Derived.Test.Qxb6616110aModsBase
import Derived.Deep.RegionHeld3
import Derived.Deep.RegionLaw
import Derived.Deep.AppendLies
namespace Go.Proofs.Qxb6616110aMods
open Go.RowKit Go.Maps

def zeroFail : DataW Value := .held (failV 0 ⟨#[]⟩)
/-- What 'm[k]' gives: the element's two fields. -/
def valAt (D : DataW Value) (kl : Lit) : Int × ByteArray :=
  match D.atKey kl zeroFail with
  | .held (.agg ⟨[.int .i64 a, .string s]⟩) => (a, s)
  | _ => (0, ⟨#[]⟩)
theorem valAt_of {D : DataW Value} {kl : Lit} {a : Int} {s : ByteArray} (h : D.atKey kl zeroFail = .held (failV a s)) : valAt D kl = (a, s) := by
  unfold valAt; rw [h]; rfl
theorem zero28 (w : World) : (zeroValue 28).run Trym.prog w = .ok (.agg #[.int .i64 0, .string ⟨#[]⟩]) w := by kernel_rfl
theorem zero39 (w : World) : (zeroValue 39).run Trym.prog w = .ok (.agg #[.int .i64 0, .string ⟨#[]⟩]) w := by kernel_rfl

section
variable {P : Program} (w : World) {ops : Array Oper} {rest : List Oper} {o : Oper} {a : Act} {Q : Exit → Act → World → Prop}
theorem wpList_lookup_fail_ok (hg : o.guard = none) (m x : Operand) (t : TypeId) (hop : o.op = Op.lookup t m x true)
    (k e : TypeId) (K : Keyed P k) (ht : P.underlying t = some (.map k e)) (hz : (zeroValue e).run P w = .ok (.agg #[.int .i64 0, .string ⟨#[]⟩]) w) (b n : Nat) (D : DataW Value)
    (hm : a.eval m = .map (some b)) (hown : w.ownsMap P k failR b n D) (key : Value) (kl : Lit) (hx : a.eval x = key) (hkey : keyOf P k key = some kl)
    (hK : wpList P ops Q rest (a.put o.dst (.tuple #[.agg #[.int .i64 (valAt D kl).1, .string (valAt D kl).2], .bool (Maps.has D kl)])) w) :
    wpList P ops Q (o :: rest) a w :=
  wpList_lookup_own_ok w hg m x t hop k e K ht failR hz zeroFail [] rfl b n D hm hown key kl hx hkey (fun v ps hv => by
    obtain ⟨a, s, rfl, hz⟩ := failR_inv hv
    have := valAt_of (congrArg Prod.fst hz)
    rw [this] at hK
    exact hK)
theorem wpList_lookup_fail (hg : o.guard = none) (m x : Operand) (t : TypeId) (hop : o.op = Op.lookup t m x false)
    (k e : TypeId) (K : Keyed P k) (ht : P.underlying t = some (.map k e)) (hz : (zeroValue e).run P w = .ok (.agg #[.int .i64 0, .string ⟨#[]⟩]) w) (b n : Nat) (D : DataW Value)
    (hm : a.eval m = .map (some b)) (hown : w.ownsMap P k failR b n D) (key : Value) (kl : Lit) (hx : a.eval x = key) (hkey : keyOf P k key = some kl)
    (hK : wpList P ops Q rest (a.put o.dst (.agg #[.int .i64 (valAt D kl).1, .string (valAt D kl).2])) w) :
    wpList P ops Q (o :: rest) a w := by
  refine wpList_plain hg fun K' hK' => ?_
  obtain ⟨v, ps, hrun, hv⟩ := hown.lookup K ht hz (zd := zeroFail) (zp := []) rfl hkey
  obtain ⟨a', s, rfl, hz⟩ := failR_inv hv
  have := valAt_of (congrArg Prod.fst hz)
  rw [this] at hK
  unfold Oper.wp
  simp [execOp, hop, hm, hx, hrun, Result.andThen]
  exact hK' _ _ hK
end

/-- The flight's block F, its map of refusals M, its pending failures. -/
structure StV (B F M : Nat) (D : DataW Value) (n : Nat) (xs : List Value) (w : World) (vo : Option Addr) (vc : Nat) : Prop where
  bF : B ≤ F
  bM : B ≤ M
  ne : M ≠ F
  sz : B ≤ w.heap.size
  c13 : w.cell? ⟨F, 13, none⟩ = some (.map (some M))
  c16 : w.cell? ⟨F, 16, none⟩ = some (.slice vo n vc)
  f16 : w.frozen? ⟨F, 16, none⟩ = false
  map : w.ownsMap Trym.prog 2 failR M 1048576 D
  row : w.ownsRow B 39 2 (.slice vo n vc) n xs
  rF : (Value.slice vo n vc).ownBlock ≠ some F
  rM : (Value.slice vo n vc).ownBlock ≠ some M
def St (B F M : Nat) (D : DataW Value) (n : Nat) (xs : List Value) (w : World) : Prop := ∃ vo vc, StV B F M D n xs w vo vc

set_option maxHeartbeats 400000 in
theorem count_no (B F M : Nat) (D : DataW Value) (n : Nat) (xs : List Value) (w : World) (h : St B F M D n xs w) (id : Int) (wid : (Lit.int .i64 id).wf = true) (hh : Maps.has D (.int .i64 id) = false) :
    Calls Trym.prog 31 #[.pointer (some ⟨F, 0, none⟩), .int .i64 id] w fun e w' => e = .returned (.bool false) ∧ Below w.heap.size w w' := by
  obtain ⟨vo, vc, h⟩ := h
  have h13 := h.c13
  have hkey : keyOf Trym.prog 2 (.int .i64 id) = some (.int .i64 id) := keyOf_int_mk Trym.underlying2 wid
  go_enter Trym.func31, Trym.ntmps31
  go_wp2_with (first | (at_lookup; refine wpList_lookup_fail_ok _ rfl _ _ 32 rfl 2 39 law2 Trym.underlying32 (zero39 _) M 1048576 D rfl h.map _ _ rfl hkey ?_) | go_in)
  go_ret
  exact ⟨rfl, (Below.refl _ _).alloc (Nat.le_refl _) _⟩

theorem grownBy_setCell (w : World) (a : Addr) (u : Value) : w.grownBy (w.setCell a u) (some a.block) :=
  ⟨rfl, rfl, rfl, by simp, fun k _ hk => Below.heap_setCell w a u k (fun e => hk (by rw [e]))⟩

/-- What the way on which a refusal is moved has done to the world. -/
theorem count_close {B F M n : Nat} {D : DataW Value} {xs : List Value} {w wx w1 w2 : World} {vo : Option Addr} {vc gg cap : Nat} {va : Int} {vs : ByteArray} {kl : Lit} {o : Obj}
    (h : StV B F M D n xs w vo vc) (lF : F < w.heap.size) (hb : Below w.heap.size w wx) (gr : wx.ownsRow B 39 2 (.slice vo n vc) n xs)
    (hgrow : (wx.alloc o).drew.grownBy w1 (Value.slice vo n vc).ownBlock) (hat : (Value.slice vo n vc).ownBlock = some gg ∨ gg = wx.heap.size + 1)
    (hown1 : w1.ownsRow B 39 2 (.slice (some ⟨gg, 0, none⟩) (n + 1) cap) (n + 1) (xs ++ [.int .i64 va, .string vs]))
    (hmap2 : w2.ownsMap Trym.prog 2 failR M 1048576 (D.del kl)) (ht : (w1.setCell ⟨F, 16, none⟩ (.slice (some ⟨gg, 0, none⟩) (n + 1) cap)).mapTurned w2 M) :
    Below B w w2 ∧ St B F M (D.del kl) (n + 1) (xs ++ [.int .i64 va, .string vs]) w2 := by
  have g1 := grownBy_setCell w1 ⟨F, 16, none⟩ (.slice (some ⟨gg, 0, none⟩) (n + 1) cap)
  have g2 := ht.grown
  have hs := hb.size
  have lM := h.map.lt
  have hgF : gg ≠ F := by
    rcases hat with e | e
    · exact fun e' => h.rF (by rw [e, e'])
    · omega
  have hgM : gg ≠ M := by
    rcases hat with e | e
    · exact fun e' => h.rM (by rw [e, e'])
    · omega
  have b1 : Below B w w1 := ((((hb.mono h.sz).alloc (by have := h.sz; omega) o).drew).grown hgrow (by have := h.sz; simp; omega) (fun k hk => (gr.lt k hk).1))
  have b2 : Below B w w2 := (b1.setCell (p := ⟨F, 16, none⟩) h.bF _).grown g2 (by have := h.sz; have := b1.size; simp; omega) (fun k hk => by cases hk; exact h.bM)
  have s1 := hgrow.size
  simp at s1
  have c13 : w1.cell? ⟨F, 13, none⟩ = some (.map (some M)) :=
    (hgrow.cell_far ⟨F, 13, none⟩ (by show F < _; simp; omega) (Ne.symm h.rF)).trans ((((Below.refl _ _).alloc (Nat.le_refl _) o).cell (by show F < _; omega)).trans ((hb.cell (by exact lF)).trans h.c13))
  have c16 : w1.cell? ⟨F, 16, none⟩ = some (.slice vo n vc) :=
    (hgrow.cell_far ⟨F, 16, none⟩ (by show F < _; simp; omega) (Ne.symm h.rF)).trans ((((Below.refl _ _).alloc (Nat.le_refl _) o).cell (by show F < _; omega)).trans ((hb.cell (by exact lF)).trans h.c16))
  have f16 : w1.frozen? ⟨F, 16, none⟩ = false :=
    (hgrow.frozen_far ⟨F, 16, none⟩ (by show F < _; simp; omega) (Ne.symm h.rF)).trans ((((Below.refl _ _).alloc (Nat.le_refl _) o).frozen (by show F < _; omega)).trans ((hb.frozen (by exact lF)).trans h.f16))
  have lF1 : F < (w1.setCell ⟨F, 16, none⟩ (.slice (some ⟨gg, 0, none⟩) (n + 1) cap)).heap.size := by simp; omega
  have neM : some F ≠ some M := fun e => h.ne (by cases e; rfl)
  refine ⟨b2, some ⟨gg, 0, none⟩, cap, ⟨h.bF, h.bM, h.ne, ?_, ?_, ?_, ?_, hmap2, ?_, ?_, ?_⟩⟩
  · exact Nat.le_trans h.sz b2.size
  · rw [g2.cell_far ⟨F, 13, none⟩ lF1 neM]
    exact (World.cell?_setCell_other _ _ _ _ (by simp)).trans c13
  · rw [g2.cell_far ⟨F, 16, none⟩ lF1 neM]
    exact World.cell?_setCell_same _ _ _ c16
  · rw [g2.frozen_far ⟨F, 16, none⟩ lF1 neM]
    simpa using f16
  · exact (hown1.kept g1 (Or.inr (by simp [Value.ownBlock]; exact hgF))).kept g2 (Or.inr (by simp [Value.ownBlock]; exact hgM))
  · simp [Value.ownBlock]; exact hgF
  · simp [Value.ownBlock]; exact hgM

set_option maxHeartbeats 800000 in
set_option maxRecDepth 100000 in
theorem count_yes (B F M : Nat) (D : DataW Value) (n : Nat) (xs : List Value) (w : World) (h : St B F M D n xs w) (hn : n ≤ 1048576) (id : Int) (wid : (Lit.int .i64 id).wf = true) (hh : Maps.has D (.int .i64 id) = true) :
    Calls Trym.prog 31 #[.pointer (some ⟨F, 0, none⟩), .int .i64 id] w fun e w' => e = .returned (.bool true) ∧ Below B w w' ∧ St B F M (D.del (.int .i64 id)) (n + 1) (xs ++ [.int .i64 (valAt D (.int .i64 id)).1, .string (valAt D (.int .i64 id)).2]) w' := by
  obtain ⟨vo, vc, h⟩ := h
  have h13 := h.c13
  have hkey : keyOf Trym.prog 2 (.int .i64 id) = some (.int .i64 id) := keyOf_int_mk Trym.underlying2 wid
  obtain ⟨i0, hi0, hz0, hz1, hz2⟩ := info_parts Trym.info39
  generalize hva : (valAt D (.int .i64 id)).1 = va
  generalize hvs : (valAt D (.int .i64 id)).2 = vs
  have lF : F < w.heap.size := World.block_lt_of_cell? w ⟨F, 13, none⟩ h13
  have lM := h.map.lt
  have hb : Below w.heap.size w (w.alloc (.cells #[.int .i64 va, .string vs] 39)) := (Below.refl _ _).alloc (Nat.le_refl _) _
  have gb : (w.alloc (.cells #[.int .i64 va, .string vs] 39)).heap[w.heap.size]? = some (.cells #[.int .i64 va, .string vs] 39 (0, 0)) := heap_alloc_new w _
  have g13 : (w.alloc (.cells #[.int .i64 va, .string vs] 39)).cell? ⟨F, 13, none⟩ = some (.map (some M)) := (hb.cell (by exact lF)).trans h.c13
  have g16 : (w.alloc (.cells #[.int .i64 va, .string vs] 39)).cell? ⟨F, 16, none⟩ = some (.slice vo n vc) := (hb.cell (by exact lF)).trans h.c16
  have gf : (w.alloc (.cells #[.int .i64 va, .string vs] 39)).frozen? ⟨F, 16, none⟩ = false := (hb.frozen (by exact lF)).trans h.f16
  have gm := h.map.alloc (.cells #[.int .i64 va, .string vs] 39)
  have gr := h.row.alloc (.cells #[.int .i64 va, .string vs] 39)
  have gs : (w.alloc (.cells #[.int .i64 va, .string vs] 39)).heap.size ≥ w.heap.size + 1 := by simp
  have HV : Hid ((valAt D (.int .i64 id)).1 = va ∧ (valAt D (.int .i64 id)).2 = vs) := ⟨hva, hvs⟩
  have HB := h.sz
  go_enter Trym.func31, Trym.ntmps31
  go_wp2_with (first | (at_lookup; refine wpList_lookup_fail_ok _ rfl _ _ 32 rfl 2 39 law2 Trym.underlying32 (zero39 _) M 1048576 D rfl h.map _ _ rfl hkey ?_))
  clear hva hvs
  generalize w.alloc (.cells #[.int .i64 va, .string vs] 39) = wx at *
  have k0 : wx.cell? ⟨w.heap.size, 0, none⟩ = some (.int .i64 va) := by simp [World.cell?, gb]
  have k1 : wx.cell? ⟨w.heap.size, 1, none⟩ = some (.string vs) := by simp [World.cell?, gb]
  have gfa : ∀ o, (wx.alloc o).frozen? ⟨F, 16, none⟩ = false := fun o => (((Below.refl _ _).alloc (Nat.le_refl _) o).frozen (by show F < _; omega)).trans gf
  have rF := h.rF
  have rM := h.rM
  have rN : (Value.slice vo n vc).ownBlock ≠ some w.heap.size := fun e => by have := (h.row.lt _ e).2; omega
  have gca : ∀ o, (wx.alloc o).cell? ⟨F, 16, none⟩ = some (.slice vo n vc) := fun o => (((Below.refl _ _).alloc (Nat.le_refl _) o).cell (by show F < _; omega)).trans g16
  go_region_law
    ((refine step_append_lies _ (by rfl) _ _ _ (by rfl) B 39 i0 _ 2 24 Trym.underlying34 hi0 hz0 hz1 hz2 rfl (by omega) (.slice vo n vc) n xs (by rfl) ((gr.alloc _).drew)
        ⟨wx.heap.size, 0, none⟩ 1 1 [.int .i64 va, .string vs] (by rfl) (by rfl) (World.news_of_block (cs := #[.int .i64 va, .string vs]) (t := 39) (fr := (0, 0)) (heap_alloc_new wx _)) (by simp [Value.oneCell'])
        (by omega) (by unfold maxLen; omega) (by omega) (by simp; omega) (wx.heap.size + 1) (by simp) ?_; intro gg cap w1 hown1 hgrow hat hlt;
      have q16 : w1.cell? ⟨F, 16, none⟩ = some (.slice vo n vc) := (hgrow.cell_far _ (by show F < _; simp; omega) (Ne.symm rF)).trans (gca _);
      have qf : w1.frozen? ⟨F, 16, none⟩ = false := (hgrow.frozen_far _ (by show F < _; simp; omega) (Ne.symm rF)).trans (gfa _)))
  all_goals
    have q13 : w1.cell? ⟨F, 13, none⟩ = some (.map (some M)) :=
      (hgrow.cell_far ⟨F, 13, none⟩ (by show F < _; simp; omega) (Ne.symm rF)).trans ((((Below.refl _ _).alloc (Nat.le_refl _) _).cell (by show F < _; omega)).trans g13)
    have hmap1 := (((gm.alloc (.cells #[.int .i64 va, .string vs] 39)).drew).kept hgrow (Ne.symm rM)).setCell (a := ⟨F, 16, none⟩) h.ne (.slice (some ⟨gg, 0, none⟩) (n + 1) cap)
    have HH : Hid (∀ w2 : World, w2.ownsMap Trym.prog 2 failR M 1048576 (D.del (.int .i64 id)) → (w1.setCell ⟨F, 16, none⟩ (.slice (some ⟨gg, 0, none⟩) (n + 1) cap)).mapTurned w2 M → Below B w w2 ∧ St B F M (D.del (.int .i64 id)) (n + 1) (xs ++ [.int .i64 va, .string vs]) w2) :=
      fun w2 hm2 ht2 => count_close h lF hb gr hgrow hat hown1 hm2 ht2
    clear hgrow hat hown1 gr gm gfa gca g16 gf gb k0 k1 hb g13 q16 qf
    go_wp2_with (first | (at_delete; refine wpList_delete_own _ rfl _ _ 32 2 rfl 39 law2 Trym.underlying32 _ M 1048576 D rfl hmap1 _ _ rfl hkey ?_; intro w2 hm2 ht2))
    go_ret
    exact ⟨rfl, HH.out w2 hm2 ht2⟩

set_option maxHeartbeats 400000 in
theorem zzcount_no (B F M : Nat) (D : DataW Value) (n : Nat) (xs : List Value) (w : World) (h : St B F M D n xs w) (id : Int) (wid : (Lit.int .i64 id).wf = true) (hh : Maps.has D (.int .i64 id) = false) :
    Calls Trym.prog 15 #[.pointer (some ⟨F, 0, none⟩), .int .i64 id] w fun e w' => e = .returned (.bool false) ∧ Below w.heap.size w w' := by
  go_enter Trym.func15, Trym.ntmps15
  go_wp2_with fail
  refine (count_no B F M D n xs _ h id wid hh).mono ?_
  rintro e w' ⟨rfl, hb⟩
  go_wp2
  go_ret
  exact ⟨rfl, hb⟩

set_option maxHeartbeats 400000 in
theorem zzcount_yes (B F M : Nat) (D : DataW Value) (n : Nat) (xs : List Value) (w : World) (h : St B F M D n xs w) (hn : n ≤ 1048576) (id : Int) (wid : (Lit.int .i64 id).wf = true) (hh : Maps.has D (.int .i64 id) = true) :
    Calls Trym.prog 15 #[.pointer (some ⟨F, 0, none⟩), .int .i64 id] w fun e w' => e = .returned (.bool true) ∧ Below B w w' ∧ St B F M (D.del (.int .i64 id)) (n + 1) (xs ++ [.int .i64 (valAt D (.int .i64 id)).1, .string (valAt D (.int .i64 id)).2]) w' := by
  go_enter Trym.func15, Trym.ntmps15
  go_wp2_with fail
  refine (count_yes B F M D n xs _ h hn id wid hh).mono ?_
  rintro e w' ⟨rfl, hb, hs⟩
  go_wp2
  go_ret
  exact ⟨rfl, hb, hs⟩

/-- The state stays what it is while other blocks are made. -/
theorem St.later {B F M : Nat} {D : DataW Value} {n : Nat} {xs : List Value} {w w' : World} (h : St B F M D n xs w) (hb : Below w.heap.size w w') : St B F M D n xs w' := by
  obtain ⟨vo, vc, h⟩ := h
  have lF : F < w.heap.size := World.block_lt_of_cell? w ⟨F, 13, none⟩ h.c13
  have hg : w.grownBy w' none := ⟨hb.os, hb.tape, hb.output, hb.size, fun k hk _ => hb.block k hk⟩
  exact ⟨vo, vc, h.bF, h.bM, h.ne, Nat.le_trans h.sz hb.size, (hb.cell (by exact lF)).trans h.c13, (hb.cell (by exact lF)).trans h.c16, (hb.frozen (by exact lF)).trans h.f16, h.map.kept hg (by simp), h.row.kept hg (by cases hv : (Value.slice vo n vc).ownBlock <;> simp), h.rF, h.rM⟩

end Go.Proofs.Qxb6616110aMods
