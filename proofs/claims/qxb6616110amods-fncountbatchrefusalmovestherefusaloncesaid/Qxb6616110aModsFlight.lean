/-
  A new flight, its pending failures and its waiting refusals: small facts that the walks of the laws want.
-/
import Derived.Test.Qxb6616110aModsCount
namespace Go.Proofs.Qxb6616110aMods
open Go.RowKit Go.Maps

/-- A new flight's cells. -/
def flightCells (m0 m4 m6 : Option Nat) (s1 s2 s3 s7 : Value) (n5 : Int) : Array Value :=
  #[.chan none, .int .i64 0, .map none, .map m6, .int .i64 0, .int .i64 0, .int .i64 0, .int .i64 0, .bool false, .map none, .map none, .map none, .map none, .map m0, .map none, .slice none 0 0, s1, .map m4, s7, s2, s3, .int .i64 n5, .int .i64 0, .string ⟨#[]⟩]

/-- w' is w and one block more, which holds cs. -/
structure Laid (w w' : World) (cs : Array Value) (t : TypeId) : Prop where
  blk : w'.heap[w.heap.size]? = some (.cells cs t (0, 0))
  below : Below w.heap.size w w'
  size : w'.heap.size = w.heap.size + 1

set_option maxHeartbeats 400000 in
theorem newFlight_any (m0 m4 m6 : Option Nat) (a1 a2 a3 a7 : Option Addr) (l1 l2 l3 l7 c1 c2 c3 c7 : Nat) (n5 : Int) (w : World) :
    Calls Trym.prog 12 #[.map m0, .slice a1 l1 c1, .slice a2 l2 c2, .slice a3 l3 c3, .map m4, .int .i64 n5, .map m6, .slice a7 l7 c7] w fun e w' => e = .returned (.pointer (some ⟨w.heap.size, 0, none⟩)) ∧ Laid w w' (flightCells m0 m4 m6 (.slice a1 l1 c1) (.slice a2 l2 c2) (.slice a3 l3 c3) (.slice a7 l7 c7) n5) 68 := by
  go_enter Trym.func12, Trym.ntmps12
  go_wp2
  go_ret
  exact ⟨rfl, heap_alloc_new w _, (Below.refl _ _).alloc (Nat.le_refl _) _, by simp⟩

theorem flat_get (ys : List (Int × ByteArray)) (ex : List Value) : ∀ k, k < ys.length → (flat ys ++ ex)[k * 2]? = some (.int .i64 (ys.getD k (0, ByteArray.empty)).1) ∧ (flat ys ++ ex)[k * 2 + 1]? = some (.string (ys.getD k (0, ByteArray.empty)).2) := by
  induction ys with
  | nil => intro k hk; simp at hk
  | cons y r ih =>
    intro k hk
    cases k with
    | zero => simp [flat]
    | succ k =>
      have := ih k (by simpa using hk)
      have e : (k + 1) * 2 = k * 2 + 1 + 1 := by omega
      simp only [flat, List.flatMap_cons, List.cons_append, List.nil_append, e, List.getElem?_cons_succ] at this ⊢
      simpa using this
theorem flat_length (ys : List (Int × ByteArray)) : (flat ys).length = ys.length * 2 := by
  induction ys with
  | nil => rfl
  | cons y r ih => simp only [flat, List.flatMap_cons, List.length_append, List.length_cons, List.length_nil] at ih ⊢; omega

theorem row_fails {w : World} {B n vc : Nat} {vo : Option Addr} {ys : List (Int × ByteArray)} {ex : List Value} (h : w.ownsRow B 39 2 (.slice vo n vc) n (flat ys ++ ex)) : 0 < ys.length → ∃ g, vo = some ⟨g, 0, none⟩ ∧ FailsAt w g 0 ys := by
  intro hp
  have hl := h.1
  rw [List.length_append, flat_length] at hl
  rcases h.2 with ⟨_, h0⟩ | ⟨g, cap, cur, e, _, hg, _⟩
  · omega
  · simp only [Value.slice.injEq] at e
    obtain ⟨rfl, _, rfl⟩ := e
    refine ⟨g, rfl, (Array.getElem?_eq_some_iff.1 hg).1, fun j hj => ?_, fun j hj => ?_⟩
    · rw [Nat.zero_add, h.cellAt (j * 2) (by omega)]
      exact (flat_get ys ex j hj).1
    · rw [Nat.zero_add, h.cellAt (j * 2 + 1) (by omega)]
      exact (flat_get ys ex j hj).2

theorem row_last {w : World} {B vc g : Nat} {ys : List (Int × ByteArray)} {a : Int} {s : ByteArray} (h : w.ownsRow B 39 2 (.slice (some ⟨g, 0, none⟩) (ys.length + 1) vc) (ys.length + 1) (flat ys ++ [.int .i64 a, .string s])) :
    g < w.heap.size ∧ w.cell? ⟨g, ys.length * 2, none⟩ = some (.int .i64 a) ∧ w.cell? ⟨g, ys.length * 2 + 1, none⟩ = some (.string s) := by
  refine ⟨(h.lt g rfl).2, ?_, ?_⟩
  · rw [h.cellAt _ (by omega), List.getElem?_append_right (by rw [flat_length]; omega), flat_length]; simp
  · rw [h.cellAt _ (by omega), List.getElem?_append_right (by rw [flat_length]; omega), flat_length, show ys.length * 2 + 1 - ys.length * 2 = 1 by omega]; simp

theorem isMap_Dm (xs : List (Int × ByteArray)) : ∀ m : DataW Value, IsMap m → IsMap (xs.foldl (fun m x => m.put (.int .i64 x.1) (.held (failV x.1 x.2))) m) := by
  induction xs with
  | nil => intro m hm; exact hm
  | cons x r ih => intro m hm; exact ih _ (hm.put _ _)
theorem has_Dm_fold (xs : List (Int × ByteArray)) : ∀ (m : DataW Value) (a : Int), IsMap m → (Maps.has m (.int .i64 a) = true ∨ ∃ x ∈ xs, x.1 = a) → Maps.has (xs.foldl (fun m x => m.put (.int .i64 x.1) (.held (failV x.1 x.2))) m) (.int .i64 a) = true := by
  induction xs with
  | nil =>
    intro m a hm h
    rcases h with h | ⟨x, hx, _⟩
    · exact h
    · simp at hx
  | cons x r ih =>
    intro m a hm h
    refine ih _ a (hm.put _ _) ?_
    by_cases e : a = x.1
    · left
      rw [e]
      exact has_put_same hm (by trivial) _
    · rcases h with h | ⟨y, hy, he⟩
      · left
        rw [has_put_other (by simpa using e)]
        exact h
      · right
        rcases List.mem_cons.1 hy with rfl | hy
        · exact absurd he.symm e
        · exact ⟨y, hy, he⟩
theorem has_Dm {xs : List (Int × ByteArray)} {k : Nat} (h : k < xs.length) : Maps.has (Dm xs) (.int .i64 (xs.getD k (0, ByteArray.empty)).1) = true := by
  refine has_Dm_fold xs _ _ ⟨[], rfl⟩ (Or.inr ⟨_, ?_, rfl⟩)
  rw [List.getD, List.getElem?_eq_getElem h]
  exact List.getElem_mem h
theorem look_fail {w : World} {b n : Nat} {D : DataW Value} (h : w.ownsMap Trym.prog 2 failR b n D) {key : Value} {kl : Lit} (hkey : keyOf Trym.prog 2 key = some kl) :
    (Instr.lookup 25 (.map (some b)) key false).run Trym.prog w = .ok (.agg #[.int .i64 (valAt D kl).1, .string (valAt D kl).2]) w := by
  obtain ⟨v, ps, hrun, hv⟩ := h.lookup law2 Trym.underlying25 (zero28 w) (zd := zeroFail) (zp := []) rfl hkey
  obtain ⟨a, s, rfl, hz⟩ := failR_inv hv
  rw [valAt_of (congrArg Prod.fst hz)]
  exact hrun
theorem valAt_del {D : DataW Value} {k k' : Lit} (h : k' ≠ k) : valAt (D.del k) k' = valAt D k' := by
  unfold valAt; rw [atKey_del_other h]

theorem FailsV.later {w w' : World} {ao : Option Addr} {xs : List (Int × ByteArray)} (h : FailsV w ao xs) (hb : Below w.heap.size w w') : FailsV w' ao xs := by
  intro hp
  obtain ⟨b, off, e, f⟩ := h hp
  exact ⟨b, off, e, Nat.lt_of_lt_of_le f.lt hb.size, fun j hj => (hb.cell (by exact f.lt)).trans (f.id j hj), fun j hj => (hb.cell (by exact f.lt)).trans (f.err j hj)⟩
theorem ownsMap_later {w w' : World} {b n : Nat} {D : DataW Value} {k : TypeId} {R : Value → Option (DataW Value × List MemPlace)} (h : w.ownsMap Trym.prog k R b n D) {B : Nat} (hb : Below B w w') (hB : b < B) : w'.ownsMap Trym.prog k R b n D := by
  obtain ⟨es, clock, h1, r⟩ := h
  exact ⟨es, clock, (hb.block b hB).trans h1, r⟩

theorem ownsRow_base {w : World} {B B' : Nat} {e : TypeId} {size n : Nat} {v : Value} {xs : List Value} (h : w.ownsRow B e size v n xs) (hB : B' ≤ B) : w.ownsRow B' e size v n xs := by
  refine ⟨h.1, ?_⟩
  rcases h.2 with h0 | ⟨g, cap, cur, e, hb, r⟩
  · exact .inl h0
  · exact .inr ⟨g, cap, cur, e, Nat.le_trans hB hb, r⟩

theorem St.start {w2 w3 w4 w5 : World} {D : DataW Value} {m n vc : Nat} {vo : Option Addr} {cs : List Value} {m4 m6 : Option Nat} {s2 s3 s7 : Value} {n5 : Int}
    (hm3 : w3.ownsMap Trym.prog 2 failR w2.heap.size m D) (hm : m ≤ 1048576) (hb4 : Below w3.heap.size w3 w4) (hrow : w4.ownsRow w3.heap.size 39 2 (.slice vo n vc) n cs)
    (hl : Laid w4 w5 (flightCells (some w2.heap.size) m4 m6 (.slice vo n vc) s2 s3 s7 n5) 68) : St w2.heap.size w4.heap.size w2.heap.size D n cs w5 := by
  have l3 := hm3.lt
  have l4 := hb4.size
  have l5 := hl.size
  have hg : w4.grownBy w5 none := ⟨hl.below.os, hl.below.tape, hl.below.output, hl.below.size, fun k hk _ => hl.below.block k hk⟩
  refine ⟨vo, vc, by omega, Nat.le_refl _, by omega, by omega, ?_, ?_, ?_, ownsMap_later (ownsMap_later (hm3.mono hm) hb4 l3) hl.below (by omega), ?_, ?_, ?_⟩
  · simp [World.cell?, hl.blk, flightCells]
  · simp [World.cell?, hl.blk, flightCells]
  · simp [World.frozen?, hl.blk]
  · exact ownsRow_base (hrow.kept hg (by cases hv : (Value.slice vo n vc).ownBlock <;> simp)) (by omega)
  · intro e
    have := (hrow.lt _ e).2
    omega
  · intro e
    have := (hrow.lt _ e).1
    omega

end Go.Proofs.Qxb6616110aMods
