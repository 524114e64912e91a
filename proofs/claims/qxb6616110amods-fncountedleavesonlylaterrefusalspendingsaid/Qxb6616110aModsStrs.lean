/-
  Sets of strings, lists of strings and of held aggregates: what the walks of the two laws on leftOut see of them, and the plain mathematics of 'held less settled'.
-/
import Derived.Test.Qxb6616110aModsCount
namespace Go.Proofs.Qxb6616110aMods
open Go.RowKit Go.Maps Go.WideMaps

abbrev noStr : ByteArray := ByteArray.empty

/-- A slice of strings as the walk sees it. -/
structure StrsAt (w : World) (b off : Nat) (xs : List ByteArray) : Prop where
  lt : b < w.heap.size
  at_ : ∀ j, j < xs.length → w.cell? ⟨b, off + j, none⟩ = some (.string (xs.getD j noStr))
def StrsV (w : World) (ao : Option Addr) (xs : List ByteArray) : Prop := 0 < xs.length → ∃ b off, ao = some ⟨b, off, none⟩ ∧ StrsAt w b off xs
/-- A slice of Held as the walk sees it. -/
structure HeldAt (w : World) (b off : Nat) (hs : List (ByteArray × Int)) : Prop where
  lt : b < w.heap.size
  agg : ∀ j, j < hs.length → w.cell? ⟨b, off + j * 2, none⟩ = some (.string (hs.getD j (noStr, 0)).1)
  shard : ∀ j, j < hs.length → w.cell? ⟨b, off + j * 2 + 1, none⟩ = some (.int .i64 (hs.getD j (noStr, 0)).2)
def HeldV (w : World) (ao : Option Addr) (hs : List (ByteArray × Int)) : Prop := 0 < hs.length → ∃ b off, ao = some ⟨b, off, none⟩ ∧ HeldAt w b off hs

def WfStrs (xs : List ByteArray) : Prop := ∀ x ∈ xs, x.size ≤ maxLen
def WfHeld (hs : List (ByteArray × Int)) : Prop := ∀ x ∈ hs, x.1.size ≤ maxLen ∧ (Lit.int .i64 x.2).wf = true

theorem wfStr_at {xs : List ByteArray} (h : WfStrs xs) (k : Nat) : (xs.getD k noStr).size ≤ maxLen := by
  by_cases hk : k < xs.length
  · rw [List.getD, List.getElem?_eq_getElem hk]; exact h _ (List.getElem_mem hk)
  · rw [List.getD, List.getElem?_eq_none (by omega)]; exact Nat.zero_le _
theorem wfHeld_at {hs : List (ByteArray × Int)} (h : WfHeld hs) (k : Nat) : (hs.getD k (noStr, 0)).1.size ≤ maxLen ∧ (Lit.int .i64 (hs.getD k (noStr, 0)).2).wf = true := by
  by_cases hk : k < hs.length
  · rw [List.getD, List.getElem?_eq_getElem hk]; exact h _ (List.getElem_mem hk)
  · rw [List.getD, List.getElem?_eq_none (by omega)]; exact ⟨Nat.zero_le _, by decide⟩

theorem StrsV.later {w w' : World} {ao : Option Addr} {xs : List ByteArray} (h : StrsV w ao xs) {B : Nat} (hB : w.heap.size ≤ B) (hb : Below B w w') : StrsV w' ao xs := by
  intro hp
  obtain ⟨b, off, e, f⟩ := h hp
  exact ⟨b, off, e, Nat.lt_of_lt_of_le f.lt hb.size, fun j hj => (hb.cell (by exact Nat.lt_of_lt_of_le f.lt hB)).trans (f.at_ j hj)⟩
theorem HeldV.later {w w' : World} {ao : Option Addr} {hs : List (ByteArray × Int)} (h : HeldV w ao hs) {B : Nat} (hB : w.heap.size ≤ B) (hb : Below B w w') : HeldV w' ao hs := by
  intro hp
  obtain ⟨b, off, e, f⟩ := h hp
  exact ⟨b, off, e, Nat.lt_of_lt_of_le f.lt hb.size, fun j hj => (hb.cell (by exact Nat.lt_of_lt_of_le f.lt hB)).trans (f.agg j hj), fun j hj => (hb.cell (by exact Nat.lt_of_lt_of_le f.lt hB)).trans (f.shard j hj)⟩

/-! ### maps filled from a list -/
def keyS (s : ByteArray) : Lit := .string s.data.toList
theorem keyS_inj {s t : ByteArray} (h : keyS s = keyS t) : s = t := by
  simp only [keyS, Lit.string.injEq] at h
  cases s with | mk d => cases t with | mk d' => simp at h; rw [h]
theorem isMap_fold {α H : Type} (f : α → Lit) (g : α → DataW H) (L : List α) : ∀ m : DataW H, IsMap m → IsMap (L.foldl (fun m a => m.put (f a) (g a)) m) := by
  induction L with
  | nil => intro m hm; exact hm
  | cons x r ih => intro m hm; exact ih _ (hm.put _ _)
theorem has_filled {α H : Type} (f : α → Lit) (g : α → DataW H) (hf : ∀ a, WideAt.IsKeyLit (f a)) (L : List α) : ∀ (m : DataW H) (k : Lit), IsMap m → (Maps.has (L.foldl (fun m a => m.put (f a) (g a)) m) k = true ↔ Maps.has m k = true ∨ ∃ a ∈ L, f a = k) := by
  induction L with
  | nil => intro m k _; simp
  | cons x r ih =>
    intro m k hm
    rw [List.foldl_cons, ih _ k (hm.put _ _)]
    by_cases e : k = f x
    · subst e
      simp [has_put_same hm (hf x)]
    · rw [has_put_other e]
      simp [Ne.symm e]
/-- A set of strings, as a map to true. -/
def Sd (L : List ByteArray) : DataW Unit := L.foldl (fun m s => m.put (keyS s) (.lit (.bool true))) (.map [])
def inB (L : List ByteArray) (s : ByteArray) : Bool := L.any fun x => x.data.toList == s.data.toList
theorem inB_iff (L : List ByteArray) (s : ByteArray) : inB L s = true ↔ s ∈ L := by
  unfold inB
  rw [List.any_eq_true]
  constructor
  · rintro ⟨x, hx, e⟩
    have : x = s := keyS_inj (by simpa [keyS] using e)
    exact this ▸ hx
  · exact fun h => ⟨s, h, by simp⟩
theorem inB_true {L : List ByteArray} {s : ByteArray} (h : s ∈ L) : inB L s = true := (inB_iff L s).2 h
theorem inB_false {L : List ByteArray} {s : ByteArray} (h : ¬ s ∈ L) : inB L s = false := by
  cases e : inB L s
  · rfl
  · exact absurd ((inB_iff L s).1 e) h
theorem inB_eq {L L' : List ByteArray} {s : ByteArray} (h : s ∈ L ↔ s ∈ L') : inB L s = inB L' s := by
  rw [Bool.eq_iff_iff, inB_iff, inB_iff, h]
theorem Sd_snoc (L : List ByteArray) (s : ByteArray) : Sd (L ++ [s]) = (Sd L).put (keyS s) (.lit (.bool true)) := by simp [Sd]
theorem at_fold (L : List ByteArray) : ∀ (m : DataW Unit) (s : ByteArray) (z : DataW Unit), IsMap m → (L.foldl (fun m s => m.put (keyS s) (.lit (.bool true))) m).atKey (keyS s) z = if inB L s then .lit (.bool true) else m.atKey (keyS s) z := by
  induction L with
  | nil => intro m s z _; simp [inB]
  | cons x r ih =>
    intro m s z hm
    rw [List.foldl_cons, ih _ s z (hm.put _ _)]
    by_cases e : s = x
    · subst e
      rw [atKey_put_same hm (by trivial), inB_true (L := s :: r) (by simp)]
      simp
    · rw [atKey_put_other (fun h => e (keyS_inj h)), inB_eq (L := x :: r) (L' := r) (by simp [e])]
theorem at_Sd (L : List ByteArray) (s : ByteArray) : (Sd L).atKey (keyS s) (.lit (.bool false)) = .lit (.bool (inB L s)) := by
  rw [Sd, at_fold L _ s _ ⟨[], rfl⟩]
  cases inB L s <;> rfl

theorem law9 : Keyed Trym.prog 9 := string_keyed Trym.underlying9
theorem zero4 (w : World) : (zeroValue 4).run Trym.prog w = .ok (.bool false) w := by kernel_rfl
theorem plainElem_bool_inv {P : Program} {e : TypeId} (he : P.underlying e = some .bool) {v : Value} {z : DataW Unit × List MemPlace} (h : plainElem P e v = some z) : ∃ x, v = .bool x ∧ z = (.lit (.bool x), []) := by
  unfold plainElem at h
  rw [he] at h
  cases v <;> simp at h
  exact ⟨_, rfl, h.symm⟩

def SetIs (w : World) (b n : Nat) (L : List ByteArray) : Prop := w.ownsMap Trym.prog 9 (plainElem (H := Unit) Trym.prog 4) b n (Sd L)
theorem SetIs.look {w : World} {b n : Nat} {L : List ByteArray} (h : SetIs w b n L) {s : ByteArray} (hs : s.size ≤ maxLen) : (Instr.lookup 53 (.map (some b)) (.string s) false).run Trym.prog w = .ok (.bool (inB L s)) w := by
  obtain ⟨v, ps, hrun, hv⟩ := World.ownsMap.lookup (t := 53) h law9 Trym.underlying53 (zero4 w) (plainElem_bool Trym.underlying4 false) (keyOf_string_mk Trym.underlying9 hs)
  obtain ⟨x, rfl, hz⟩ := plainElem_bool_inv Trym.underlying4 hv
  have e := (congrArg Prod.fst hz).symm.trans (at_Sd L s)
  simp only [DataW.lit.injEq, Lit.bool.injEq] at e
  rw [hrun, e]
theorem SetIs.add {w : World} {b n : Nat} {L : List ByteArray} (h : SetIs w b n L) (hn : n < maxLen) {s : ByteArray} (hs : s.size ≤ maxLen) :
    ∃ w', (Instr.mapUpdate 53 (.map (some b)) (.string s) (.bool true)).run Trym.prog w = .ok () w' ∧ SetIs w' b (n + 1) (L ++ [s]) ∧ w.grownBy w' (some b) := by
  obtain ⟨w', hrun, ho, hg⟩ := World.ownsMap.update (t := 53) h law9 Trym.underlying53 hn (keyOf_string_mk Trym.underlying9 hs) (plainElem_bool Trym.underlying4 true)
  refine ⟨w', hrun, ?_, hg⟩
  unfold SetIs
  rw [Sd_snoc]
  exact ho
theorem SetIs.made (w : World) : SetIs (w.alloc (.map #[] 0)) w.heap.size 0 [] := World.ownsMap_made _ _ _ _
theorem SetIs.later {w w' : World} {b n : Nat} {L : List ByteArray} (h : SetIs w b n L) {B : Nat} (hb : Below B w w') (hB : b < B) : SetIs w' b n L := by
  obtain ⟨es, clock, h1, r⟩ := h
  exact ⟨es, clock, (hb.block b hB).trans h1, r⟩
theorem SetIs.kept {w w' : World} {b n : Nat} {L : List ByteArray} {row : Option Nat} (h : SetIs w b n L) (hg : w.grownBy w' row) (hne : some b ≠ row) : SetIs w' b n L := World.ownsMap.kept h hg hne
theorem SetIs.alloc {w : World} {b n : Nat} {L : List ByteArray} (h : SetIs w b n L) (o : Obj) : SetIs (w.alloc o) b n L := World.ownsMap.alloc h o
theorem SetIs.drew {w : World} {b n : Nat} {L : List ByteArray} (h : SetIs w b n L) : SetIs w.drew b n L := h
theorem SetIs.lt {w : World} {b n : Nat} {L : List ByteArray} (h : SetIs w b n L) : b < w.heap.size := World.ownsMap.lt h
theorem SetIs.mono {w : World} {b n n' : Nat} {L : List ByteArray} (h : SetIs w b n L) (hn : n ≤ n') : SetIs w b n' L := World.ownsMap.mono h hn

/-- The map of held aggregates. -/
def Hd (hs : List (ByteArray × Int)) : DataW Unit := hs.foldl (fun m x => m.put (keyS x.1) (.lit (.int .i64 x.2))) (.map [])
theorem Hd_snoc (L : List (ByteArray × Int)) (x : ByteArray × Int) : Hd (L ++ [x]) = (Hd L).put (keyS x.1) (.lit (.int .i64 x.2)) := by simp [Hd]
theorem has_Hd (hs : List (ByteArray × Int)) (s : ByteArray) : Maps.has (Hd hs) (keyS s) = true ↔ s ∈ hs.map Prod.fst := by
  rw [Hd, has_filled (fun x : ByteArray × Int => keyS x.1) (fun x => .lit (.int .i64 x.2)) (fun _ => by trivial) hs _ _ ⟨[], rfl⟩]
  constructor
  · rintro (h | ⟨a, ha, e⟩)
    · cases h
    · exact List.mem_map.2 ⟨a, ha, keyS_inj e⟩
  · intro h
    obtain ⟨a, ha, e⟩ := List.mem_map.1 h
    exact Or.inr ⟨a, ha, by rw [e]⟩

/-! ### the plain mathematics -/
/-- Each element once, at its first place. -/
def uniq (L : List ByteArray) : List ByteArray := L.foldl (fun acc x => if inB acc x then acc else acc ++ [x]) []
theorem uniq_snoc (L : List ByteArray) (x : ByteArray) : uniq (L ++ [x]) = if inB (uniq L) x then uniq L else uniq L ++ [x] := by unfold uniq; rw [List.foldl_append]; rfl
theorem uniq_fold (L : List ByteArray) : ∀ acc : List ByteArray, acc.Nodup → (L.foldl (fun acc x => if inB acc x then acc else acc ++ [x]) acc).Nodup ∧ ∀ y, y ∈ L.foldl (fun acc x => if inB acc x then acc else acc ++ [x]) acc ↔ y ∈ acc ∨ y ∈ L := by
  induction L with
  | nil => intro acc h; exact ⟨h, fun y => by simp⟩
  | cons x r ih =>
    intro acc h
    rw [List.foldl_cons]
    by_cases hx : x ∈ acc
    · rw [inB_true hx, if_pos rfl]
      refine ⟨(ih acc h).1, fun y => ?_⟩
      rw [(ih acc h).2 y]
      simp only [List.mem_cons]
      constructor
      · rintro (h | h)
        · exact Or.inl h
        · exact Or.inr (Or.inr h)
      · rintro (h | rfl | h)
        · exact Or.inl h
        · exact Or.inl hx
        · exact Or.inr h
    · rw [inB_false hx, if_neg (by simp)]
      have hn : (acc ++ [x]).Nodup := List.nodup_append.2 ⟨h, by simp, fun a ha b hb => by simp at hb; subst hb; exact fun e => hx (e ▸ ha)⟩
      refine ⟨(ih _ hn).1, fun y => ?_⟩
      rw [(ih _ hn).2 y]
      simp only [List.mem_cons, List.mem_append, List.not_mem_nil, or_false, or_assoc]
theorem uniq_nodup (L : List ByteArray) : (uniq L).Nodup := (uniq_fold L [] List.nodup_nil).1
theorem mem_uniq (L : List ByteArray) (y : ByteArray) : y ∈ uniq L ↔ y ∈ L := by rw [uniq, (uniq_fold L [] List.nodup_nil).2 y]; simp
theorem inB_uniq (L : List ByteArray) (y : ByteArray) : inB (uniq L) y = inB L y := inB_eq (mem_uniq L y)

/-- How many of L there are, each once; how many of those that N names. -/
def dcount (L : List ByteArray) : Nat := (uniq L).length
def rcount (N L : List ByteArray) : Nat := ((uniq L).filter (inB N)).length
theorem dcount_old (L : List ByteArray) (x : ByteArray) (h : inB L x = true) : dcount (L ++ [x]) = dcount L := by unfold dcount; rw [uniq_snoc, inB_uniq, h, if_pos rfl]
theorem dcount_new (L : List ByteArray) (x : ByteArray) (h : inB L x = false) : dcount (L ++ [x]) = dcount L + 1 := by unfold dcount; rw [uniq_snoc, inB_uniq, h, if_neg (by simp)]; simp
theorem rcount_old (N L : List ByteArray) (x : ByteArray) (h : inB L x = true) : rcount N (L ++ [x]) = rcount N L := by unfold rcount; rw [uniq_snoc, inB_uniq, h, if_pos rfl]
theorem rcount_in (N L : List ByteArray) (x : ByteArray) (h : inB L x = false) (hn : inB N x = true) : rcount N (L ++ [x]) = rcount N L + 1 := by unfold rcount; rw [uniq_snoc, inB_uniq, h, if_neg (by simp)]; simp [hn]
theorem rcount_out (N L : List ByteArray) (x : ByteArray) (h : inB L x = false) (hn : inB N x = false) : rcount N (L ++ [x]) = rcount N L := by unfold rcount; rw [uniq_snoc, inB_uniq, h, if_neg (by simp)]; simp [hn]
theorem uniq_le (L : List ByteArray) : ∀ acc : List ByteArray, (L.foldl (fun acc x => if inB acc x then acc else acc ++ [x]) acc).length ≤ acc.length + L.length := by
  induction L with
  | nil => intro acc; simp
  | cons x r ih =>
    intro acc
    rw [List.foldl_cons]
    refine Nat.le_trans (ih _) ?_
    split <;> simp <;> omega
theorem dcount_le (L : List ByteArray) : dcount L ≤ L.length := by simpa [dcount, uniq] using uniq_le L []
theorem rcount_le (N L : List ByteArray) : rcount N L ≤ L.length := Nat.le_trans (List.length_filter_le _ _) (dcount_le L)

/-- out: the aggregates of N that S does not name, each once. -/
def LeftOut (N S out : List ByteArray) : Prop := out.Nodup ∧ ∀ x, x ∈ out ↔ x ∈ N ∧ ¬ x ∈ S

theorem filter_nodup {L : List ByteArray} (h : L.Nodup) (p : ByteArray → Bool) : (L.filter p).Nodup := h.filter p
theorem length_parts (L : List ByteArray) (p : ByteArray → Bool) : (L.filter p).length + (L.filter fun x => !p x).length = L.length := by
  induction L with
  | nil => rfl
  | cons x r ih => cases h : p x <;> simp [h] <;> omega
theorem leftOut_length {N S out : List ByteArray} (h : LeftOut N S out) : out.length + rcount N S = dcount N := by
  have p1 : out.Perm ((uniq N).filter fun x => !inB S x) := by
    refine (List.perm_ext_iff_of_nodup h.1 (filter_nodup (uniq_nodup N) _)).2 fun x => ?_
    rw [h.2 x, List.mem_filter, mem_uniq, Bool.not_eq_true', ← Bool.not_eq_true, inB_iff]
  have p2 : ((uniq S).filter (inB N)).Perm ((uniq N).filter (inB S)) := by
    refine (List.perm_ext_iff_of_nodup (filter_nodup (uniq_nodup S) _) (filter_nodup (uniq_nodup N) _)).2 fun x => ?_
    rw [List.mem_filter, List.mem_filter, mem_uniq, mem_uniq, inB_iff, inB_iff, and_comm]
  have e1 := p1.length_eq
  have e2 := p2.length_eq
  have e3 := length_parts (uniq N) (inB S)
  unfold rcount dcount
  omega

end Go.Proofs.Qxb6616110aMods
