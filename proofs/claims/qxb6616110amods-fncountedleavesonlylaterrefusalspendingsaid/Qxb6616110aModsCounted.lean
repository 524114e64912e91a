/-
  FnCountedLeavesOnlyLaterRefusalsPending: the bound on all lengths; (*flight).counted.
-/
import Derived.Test.Qxb6616110aModsLeaf
import Derived.Test.Qxb6616110aModsFlight
import Derived.Deep.RegionLaw
import Derived.Deep.AppendLies
namespace Go.Proofs.Qxb6616110aMods
open Go.RowKit Go.Maps

set_option maxHeartbeats 1000000 in
theorem zzBytes19_any (ao bo co : Option Addr) (ca cb cc : Nat) (xs : List (Int × ByteArray)) (ys : List ByteArray) (zs : List (Int × ByteArray)) (id : Int) (w : World) (hv : FailsV w ao xs) (hu : StrsV w bo ys) (ht : FailsV w co zs)
    (hl : xs.length ≤ 9223372036854775807) (hl' : ys.length ≤ 9223372036854775807) (hl'' : zs.length ≤ 9223372036854775807) :
    Calls Trym.prog 19 #[.slice ao xs.length ca, .slice bo ys.length cb, .slice co zs.length cc, .int .i64 id] w fun e w' => BoolThen (xs.length ≤ 1048576 ∧ ys.length ≤ 1048576 ∧ zs.length ≤ 1048576) e ∧ w = w' := by
  go_enter Trym.func19, Trym.ntmps19
  go_wp2
  · go_ret
    exact ⟨⟨_, rfl, by simp⟩, rfl⟩
  · go_loop [9, 10] (fun t i => ∃ k m : Nat, k ≤ xs.length ∧ m ≤ 1048576 ∧ i = .int .i64 k ∧ t = .int .i64 m) (fun _ i => xs.length - (intOf i).toNat)
    case atStart => exact ⟨0, xs.length, Nat.zero_le _, by omega, rfl, rfl⟩
    case round =>
      obtain ⟨k, m, hk, hm, rfl, rfl⟩ := hrel
      by_cases hlt : k < xs.length
      · obtain ⟨b, off, rfl, h⟩ := hv (by omega)
        have hc := h.err k hlt
        go_wp2
        · go_ret
          exact ⟨⟨_, rfl, by simp⟩, rfl⟩
        · go_ret
          exact ⟨⟨_, rfl, by simp⟩, rfl⟩
        · go_round
          case rel => exact ⟨k + 1, m + xs[k].2.size, by omega, by omega, by go_num, by go_num⟩
          case measure => simp [intOf]; omega
      · go_wp2
        · go_ret
          exact ⟨⟨_, rfl, by simp⟩, rfl⟩
        · go_ret
          exact ⟨⟨_, rfl, by simp⟩, rfl⟩
        · go_loop [9, 11] (fun t i => ∃ k m : Nat, k ≤ ys.length ∧ m ≤ 1048576 ∧ i = .int .i64 k ∧ t = .int .i64 m) (fun _ i => ys.length - (intOf i).toNat)
          case atStart => exact ⟨0, m + ys.length, Nat.zero_le _, by omega, rfl, by go_num⟩
          case round =>
            obtain ⟨k2, m2, hk2, hm2, rfl, rfl⟩ := hrel
            by_cases hlt2 : k2 < ys.length
            · obtain ⟨b, off, rfl, h⟩ := hu (by omega)
              have hc := h.at_ k2 hlt2
              go_wp2
              · go_ret
                exact ⟨⟨_, rfl, by simp⟩, rfl⟩
              · go_ret
                exact ⟨⟨_, rfl, by simp⟩, rfl⟩
              · go_round
                case rel => exact ⟨k2 + 1, m2 + ys[k2].size, by omega, by omega, by go_num, by go_num⟩
                case measure => simp [intOf]; omega
            · go_wp2
              · go_ret
                exact ⟨⟨_, rfl, by simp⟩, rfl⟩
              · go_ret
                exact ⟨⟨_, rfl, by simp⟩, rfl⟩
              · go_loop [9, 12] (fun t i => ∃ k m : Nat, k ≤ zs.length ∧ m ≤ 1048576 ∧ i = .int .i64 k ∧ t = .int .i64 m) (fun _ i => zs.length - (intOf i).toNat)
                case atStart => exact ⟨0, m2 + zs.length, Nat.zero_le _, by omega, rfl, by go_num⟩
                case round =>
                  obtain ⟨k3, m3, hk3, hm3, rfl, rfl⟩ := hrel
                  by_cases hlt3 : k3 < zs.length
                  · obtain ⟨b, off, rfl, h⟩ := ht (by omega)
                    have hc := h.err k3 hlt3
                    go_wp2
                    · go_ret
                      exact ⟨⟨_, rfl, by simp⟩, rfl⟩
                    · go_ret
                      exact ⟨⟨_, rfl, by simp⟩, rfl⟩
                    · go_round
                      case rel => exact ⟨k3 + 1, m3 + zs[k3].2.size, by omega, by omega, by go_num, by go_num⟩
                      case measure => simp [intOf]; omega
                  · go_wp2
                    go_ret
                    exact ⟨⟨_, rfl, fun _ => ⟨by omega, by omega, by omega⟩⟩, rfl⟩

theorem run_clear_nil {P : Program} {t : TypeId} {d : TypeDesc} (h : P.underlying t = some d) (ty : TypeId) (w : World) : (Builtin.clear_ #[t] ty #[.map none]).run P w = .ok (.tuple #[]) w := by
  simp [Builtin.clear_, run_underlying h, Result.andThen]

/-- The cells of a flight that 'counted' reads and writes. -/
structure Ready (F : Nat) (vo fo : Option Addr) (n vc fl fc : Nat) (w : World) : Prop where
  c16 : w.cell? ⟨F, 16, none⟩ = some (.slice vo n vc)
  c17 : w.cell? ⟨F, 17, none⟩ = some (.map none)
  c19 : w.cell? ⟨F, 19, none⟩ = some (.slice fo fl fc)
  c20 : w.cell? ⟨F, 20, none⟩ = some (.slice none 0 0)
  c21 : w.cell? ⟨F, 21, none⟩ = some (.int .i64 0)
  fz : ∀ o, w.frozen? ⟨F, o, none⟩ = false

/-- What 'counted' has done. -/
structure Done (F : Nat) (vo : Option Addr) (vc : Nat) (ys : List ByteArray) (w w' : World) : Prop where
  kept : w.grownBy w' (some F)
  same : ∀ o, o < 16 → w'.cell? ⟨F, o, none⟩ = w.cell? ⟨F, o, none⟩
  c16 : w'.cell? ⟨F, 16, none⟩ = some (.slice vo 0 vc)
  fz : ∀ o, w'.frozen? ⟨F, o, none⟩ = false
  cool : ∃ co cc, w'.cell? ⟨F, 20, none⟩ = some (.slice co ys.length cc) ∧ w'.ownsRow w.heap.size 9 1 (.slice co ys.length cc) ys.length (ys.map Value.string)

theorem Done.drew {F : Nat} {vo : Option Addr} {vc : Nat} {ys : List ByteArray} {w w' : World} (h : Done F vo vc ys w w') : Done F vo vc ys w w'.drew :=
  ⟨⟨h.kept.os, h.kept.tape, h.kept.output, h.kept.size, h.kept.block⟩, h.same, h.c16, h.fz, h.cool⟩

theorem done_of {F : Nat} {vo : Option Addr} {vc : Nat} {ys : List ByteArray} {w w1 : World} {co : Option Addr} {cc : Nat} {v19 v21 : Value} (lF : F < w.heap.size)
    (hg : w.grownBy w1 none) (h16 : ∃ u, w.cell? ⟨F, 16, none⟩ = some u) (h20 : ∃ u, w.cell? ⟨F, 20, none⟩ = some u) (hf : ∀ o, w.frozen? ⟨F, o, none⟩ = false)
    (hrow : w1.ownsRow w.heap.size 9 1 (.slice co ys.length cc) ys.length (ys.map Value.string)) :
    Done F vo vc ys w ((((w1.setCell ⟨F, 20, none⟩ (.slice co ys.length cc)).setCell ⟨F, 16, none⟩ (.slice vo 0 vc)).setCell ⟨F, 19, none⟩ v19).setCell ⟨F, 21, none⟩ v21) := by
  have g1 := grownBy_setCell w1 ⟨F, 20, none⟩ (.slice co ys.length cc)
  have g2 := grownBy_setCell (w1.setCell ⟨F, 20, none⟩ (.slice co ys.length cc)) ⟨F, 16, none⟩ (.slice vo 0 vc)
  have g3 := grownBy_setCell ((w1.setCell ⟨F, 20, none⟩ (.slice co ys.length cc)).setCell ⟨F, 16, none⟩ (.slice vo 0 vc)) ⟨F, 19, none⟩ v19
  have g4 := grownBy_setCell (((w1.setCell ⟨F, 20, none⟩ (.slice co ys.length cc)).setCell ⟨F, 16, none⟩ (.slice vo 0 vc)).setCell ⟨F, 19, none⟩ v19) ⟨F, 21, none⟩ v21
  have hc : ∀ o, w1.cell? ⟨F, o, none⟩ = w.cell? ⟨F, o, none⟩ := fun o => hg.cell_far ⟨F, o, none⟩ lF (by simp)
  have hfr : ∀ o, w1.frozen? ⟨F, o, none⟩ = false := fun o => (hg.frozen_far ⟨F, o, none⟩ lF (by simp)).trans (hf o)
  obtain ⟨u16, h16⟩ := h16
  obtain ⟨u20, h20⟩ := h20
  have hne : (Value.slice co ys.length cc).ownBlock = none ∨ (Value.slice co ys.length cc).ownBlock ≠ some F := by
    cases hv : (Value.slice co ys.length cc).ownBlock with
    | none => exact Or.inl rfl
    | some k => exact Or.inr (fun e => by have := (hrow.lt k hv).1; cases e; omega)
  refine ⟨?_, fun o ho => ?_, ?_, fun o => ?_, co, cc, ?_, ?_⟩
  · exact ⟨((g4.os.trans g3.os).trans g2.os).trans (g1.os.trans hg.os), ((g4.tape.trans g3.tape).trans g2.tape).trans (g1.tape.trans hg.tape), ((g4.output.trans g3.output).trans g2.output).trans (g1.output.trans hg.output), by have := hg.size; simpa using this,
      fun k hk hkF => by
        have l1 := hg.size
        rw [g4.block k (by simp; omega) hkF, g3.block k (by simp; omega) hkF, g2.block k (by simp; omega) hkF, g1.block k (by omega) hkF, hg.block k hk (by simp)]⟩
  · have ne : ∀ k, 16 ≤ k → (⟨F, k, none⟩ : Addr) ≠ ⟨F, o, none⟩ := fun k hk e => by have := (Addr.mk.inj e).2.1; omega
    rw [World.cell?_setCell_other _ _ _ _ (ne 21 (by omega)), World.cell?_setCell_other _ _ _ _ (ne 19 (by omega)), World.cell?_setCell_other _ _ _ _ (ne 16 (by omega)), World.cell?_setCell_other _ _ _ _ (ne 20 (by omega)), hc]
  · rw [World.cell?_setCell_other _ _ _ _ (by simp), World.cell?_setCell_other _ _ _ _ (by simp)]
    exact World.cell?_setCell_same (u := u16) _ _ _ (by rw [World.cell?_setCell_other _ _ _ _ (by simp), hc]; exact h16)
  · rw [World.frozen?_setCell, World.frozen?_setCell, World.frozen?_setCell, World.frozen?_setCell]
    exact hfr o
  · rw [World.cell?_setCell_other _ _ _ _ (by simp), World.cell?_setCell_other _ _ _ _ (by simp), World.cell?_setCell_other _ _ _ _ (by simp)]
    exact World.cell?_setCell_same (u := u20) _ _ _ (by rw [hc]; exact h20)
  · exact (((hrow.kept g1 hne).kept g2 hne).kept g3 hne).kept g4 hne

set_option maxHeartbeats 1000000 in
set_option maxRecDepth 100000 in
theorem counted_none (F : Nat) (vo fo : Option Addr) (n vc fc : Nat) (w : World) (h : Ready F vo fo n vc 0 fc w)
    (h1 : ∀ w, (Instr.slice 34 (.slice vo n vc) none (some (.int .i64 0)) none).run Trym.prog w = .ok (.slice vo 0 vc) w)
    (h2 : ∀ w, (Instr.slice 42 (.slice fo 0 fc) none (some (.int .i64 0)) none).run Trym.prog w = .ok (.slice fo 0 fc) w) :
    Calls Trym.prog 32 #[.pointer (some ⟨F, 0, none⟩)] w fun e w' => e = .returned (.tuple #[]) ∧ Done F vo vc [] w w' := by
  have c16 := h.c16
  have c17 := h.c17
  have c19 := h.c19
  have c20 := h.c20
  have c21 := h.c21
  have f16 := h.fz 16
  have f19 := h.fz 19
  have f20 := h.fz 20
  have f21 := h.fz 21
  have hcl := fun ty w => run_clear_nil (P := Trym.prog) (t := 60) Trym.underlying60 ty w
  have lF : F < w.heap.size := World.block_lt_of_cell? w ⟨F, 16, none⟩ c16
  have hD : ∀ v19 v21, Done F vo vc [] w ((((w.setCell ⟨F, 20, none⟩ (.slice none 0 0)).setCell ⟨F, 16, none⟩ (.slice vo 0 vc)).setCell ⟨F, 19, none⟩ v19).setCell ⟨F, 21, none⟩ v21) :=
    fun v19 v21 => done_of (ys := []) (co := none) (cc := 0) lF (World.grownBy.refl _ _) ⟨_, c16⟩ ⟨_, c20⟩ h.fz (World.ownsRow_nil _ _ _ _)
  cases fo
  all_goals
    go_enter Trym.func32, Trym.ntmps32
    go_wp2
    go_region
    go_wp2
    go_region
    go_wp2
    go_end0
    exact ⟨rfl, (hD _ _).drew.drew⟩

set_option maxHeartbeats 1000000 in
set_option maxRecDepth 100000 in
theorem counted_some (F g : Nat) (vo : Option Addr) (n vc fc : Nat) (ys : List ByteArray) (w : World) (h : Ready F vo (some ⟨g, 0, none⟩) n vc ys.length fc w) (hp : 0 < ys.length) (hl : ys.length ≤ 1048576) (B : Nat)
    (hrow : w.ownsRow B 9 1 (.slice (some ⟨g, 0, none⟩) ys.length fc) ys.length (ys.map Value.string))
    (h1 : ∀ w, (Instr.slice 34 (.slice vo n vc) none (some (.int .i64 0)) none).run Trym.prog w = .ok (.slice vo 0 vc) w)
    (h2 : ∀ w, (Instr.slice 42 (.slice (some ⟨g, 0, none⟩) ys.length fc) none (some (.int .i64 0)) none).run Trym.prog w = .ok (.slice (some ⟨g, 0, none⟩) 0 fc) w) :
    Calls Trym.prog 32 #[.pointer (some ⟨F, 0, none⟩)] w fun e w' => e = .returned (.tuple #[]) ∧ Done F vo vc ys w w' := by
  obtain ⟨i0, hi, hz0, hz1, hz2⟩ := info_parts Trym.info9
  have c16 := h.c16
  have c17 := h.c17
  have c19 := h.c19
  have c20 := h.c20
  have c21 := h.c21
  have f16 := h.fz 16
  have f19 := h.fz 19
  have f20 := h.fz 20
  have f21 := h.fz 21
  have hcl := fun ty w => run_clear_nil (P := Trym.prog) (t := 60) Trym.underlying60 ty w
  have lF : F < w.heap.size := World.block_lt_of_cell? w ⟨F, 16, none⟩ c16
  have hnews := hrow.cells (g := g) rfl
  go_enter Trym.func32, Trym.ntmps32
  go_wp2
  go_region_law
    ((refine step_append_lies _ (by rfl) _ _ _ (by rfl) w.heap.size 9 i0 _ 1 16 Trym.underlying42 hi hz0 hz1 hz2 rfl (by omega) (.slice none 0 0) 0 [] (by rfl) (World.ownsRow_nil _ _ _ _)
        ⟨g, 0, none⟩ ys.length fc (ys.map Value.string) (by rfl) (by simp) hnews (by intro u hu; obtain ⟨x, _, rfl⟩ := List.mem_map.1 hu; rfl)
        hp (by unfold maxLen; omega) (by omega) (Nat.le_refl _) w.heap.size rfl ?_; intro gg cap w1 hown1 hgrow hat hlt;
      have hg : w.grownBy w1 none := ⟨hgrow.os, hgrow.tape, hgrow.output, hgrow.size, fun k hk hne => hgrow.block k hk (by simp [Value.ownBlock])⟩;
      have q16 := (hg.cell_far ⟨F, 16, none⟩ lF (by simp)).trans c16; have q17 := (hg.cell_far ⟨F, 17, none⟩ lF (by simp)).trans c17; have q19 := (hg.cell_far ⟨F, 19, none⟩ lF (by simp)).trans c19;
      have q20 := (hg.cell_far ⟨F, 20, none⟩ lF (by simp)).trans c20; have q21 := (hg.cell_far ⟨F, 21, none⟩ lF (by simp)).trans c21;
      have e16 := (hg.frozen_far ⟨F, 16, none⟩ lF (by simp)).trans f16; have e19 := (hg.frozen_far ⟨F, 19, none⟩ lF (by simp)).trans f19; have e20 := (hg.frozen_far ⟨F, 20, none⟩ lF (by simp)).trans f20; have e21 := (hg.frozen_far ⟨F, 21, none⟩ lF (by simp)).trans f21))
  all_goals
    have hD : ∀ v19 v21, Done F vo vc ys w ((((w1.setCell ⟨F, 20, none⟩ (.slice (some ⟨gg, 0, none⟩) ys.length cap)).setCell ⟨F, 16, none⟩ (.slice vo 0 vc)).setCell ⟨F, 19, none⟩ v19).setCell ⟨F, 21, none⟩ v21) :=
      fun v19 v21 => done_of lF hg ⟨_, c16⟩ ⟨_, c20⟩ h.fz (by simpa using hown1)
    clear c16 c17 c19 c20 c21 f16 f19 f20 f21 hgrow hat hown1 hg hnews hrow h
    go_wp2
    go_region
    go_wp2
    go_end0
    exact ⟨rfl, (hD _ _).drew⟩

theorem elem42 : Trym.prog.elem 42 = 9 := by kernel_rfl
theorem under42 : Trym.prog.underlying 42 = some (.slice (Trym.prog.elem 42)) := by rw [elem42]; exact Trym.underlying42
theorem elem34 : Trym.prog.elem 34 = 39 := by kernel_rfl
theorem under34 : Trym.prog.underlying 34 = some (.slice (Trym.prog.elem 34)) := by rw [elem34]; exact Trym.underlying34
theorem size9 (w : World) : (sizeOf 9).run Trym.prog w = .ok 1 w := by kernel_rfl
theorem size39 (w : World) : (sizeOf 39).run Trym.prog w = .ok 2 w := by kernel_rfl

theorem row_head {w0 : World} {base : Nat} {e : TypeId} {sz n vc : Nat} {cs : List Value} {vo : Option Addr} (h : w0.ownsRow base e sz (.slice vo n vc) n cs) (s : Nat) : (if vc = 0 then vo else vo.map (·.add (0 * s))) = vo := by
  rcases h.2 with ⟨h0, _⟩ | ⟨g, cap, cur, h0, _⟩
  · simp only [Value.slice.injEq] at h0
    rw [h0.1]
    simp
  · simp only [Value.slice.injEq] at h0
    rw [h0.1]
    simp [Addr.add_lit]
theorem slice34 {w0 : World} {base : Nat} {e : TypeId} {sz n vc : Nat} {cs : List Value} {vo : Option Addr} (h : w0.ownsRow base e sz (.slice vo n vc) n cs) (w : World) :
    (Instr.slice 34 (.slice vo n vc) none (some (.int .i64 0)) none).run Trym.prog w = .ok (.slice vo 0 vc) w := by
  rw [run_slice_h (P := Trym.prog) w 34 vo n vc under34 .i64 0 (by omega) (by omega), elem34, size39]
  simp only [Result.andThen, sliced, Int.toNat_zero, Nat.sub_zero, row_head h]
theorem slice42 {w0 : World} {base : Nat} {e : TypeId} {sz n vc : Nat} {cs : List Value} {vo : Option Addr} (h : w0.ownsRow base e sz (.slice vo n vc) n cs) (w : World) :
    (Instr.slice 42 (.slice vo n vc) none (some (.int .i64 0)) none).run Trym.prog w = .ok (.slice vo 0 vc) w := by
  rw [run_slice_h (P := Trym.prog) w 42 vo n vc under42 .i64 0 (by omega) (by omega), elem42, size9]
  simp only [Result.andThen, sliced, Int.toNat_zero, Nat.sub_zero, row_head h]

theorem counted_any (F : Nat) (vo fo : Option Addr) (n vc fc : Nat) (ys : List ByteArray) (cs : List Value) (w : World) (h : Ready F vo fo n vc ys.length fc w) (hl : ys.length ≤ 1048576) (B : Nat)
    (hrow : w.ownsRow B 9 1 (.slice fo ys.length fc) ys.length (ys.map Value.string)) (hrv : w.ownsRow B 39 2 (.slice vo n vc) n cs) :
    Calls Trym.prog 32 #[.pointer (some ⟨F, 0, none⟩)] w fun e w' => e = .returned (.tuple #[]) ∧ Done F vo vc ys w w' := by
  by_cases hp : 0 < ys.length
  · rcases hrow.2 with ⟨_, h0⟩ | ⟨g, cap, cur, h0, _⟩
    · omega
    · simp only [Value.slice.injEq] at h0
      obtain ⟨rfl, _, rfl⟩ := h0
      exact counted_some F g vo n vc fc ys w h hp hl B hrow (slice34 hrv) (slice42 hrow)
  · have : ys = [] := List.eq_nil_of_length_eq_zero (by omega)
    subst this
    exact counted_none F vo fo n vc fc w h (slice34 hrv) (slice42 hrow)

set_option maxHeartbeats 400000 in
theorem zzcounted_any (F : Nat) (vo fo : Option Addr) (n vc fc : Nat) (ys : List ByteArray) (cs : List Value) (w : World) (h : Ready F vo fo n vc ys.length fc w) (hl : ys.length ≤ 1048576) (B : Nat)
    (hrow : w.ownsRow B 9 1 (.slice fo ys.length fc) ys.length (ys.map Value.string)) (hrv : w.ownsRow B 39 2 (.slice vo n vc) n cs) :
    Calls Trym.prog 22 #[.pointer (some ⟨F, 0, none⟩)] w fun e w' => e = .returned (.tuple #[]) ∧ Done F vo vc ys w w' := by
  go_enter Trym.func22, Trym.ntmps22
  go_wp2_with fail
  refine (counted_any F vo fo n vc fc ys cs _ h hl B hrow hrv).mono ?_
  rintro e w' ⟨rfl, hd⟩
  go_wp2
  go_end0
  exact ⟨rfl, hd⟩

set_option maxHeartbeats 400000 in
theorem zzcooling_any (b off : Nat) (v : Value) (w : World) (h : w.cell? ⟨b, off + 20, none⟩ = some v) :
    Calls Trym.prog 23 #[.pointer (some ⟨b, off, none⟩)] w fun e w' => e = .returned v ∧ w = w' := by
  go_enter Trym.func23, Trym.ntmps23
  go_wp2
  go_ret
  exact ⟨rfl, rfl⟩

end Go.Proofs.Qxb6616110aMods
