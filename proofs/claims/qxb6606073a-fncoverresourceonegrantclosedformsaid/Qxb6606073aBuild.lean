import Derived.Test.Qxb6606073aHold
import Derived.Test.Qxb6606073aClone
import Derived.Deep.OwnRows
import Derived.LoopN
namespace Go.Proofs.Qxb6606073a.W
open Go.RowKit Go.Maps
set_option linter.unusedVariables false
set_option linter.unusedSimpArgs false

theorem mk46 (W : World) : (Instr.makeSlice 46 (.int .i64 1) (.int .i64 1)).run Try.prog W = .ok (.slice (some ⟨W.heap.size, 0, none⟩) 1 1) (W.alloc (.cells #[.pointer none] 77)) := by kernel_rfl
theorem mk31 (W : World) : (Instr.makeSlice 31 (.int .i64 1) (.int .i64 1)).run Try.prog W = .ok (.slice (some ⟨W.heap.size, 0, none⟩) 1 1) (W.alloc (.cells #[.slice none 0 0, .slice none 0 0, .slice none 0 0, .slice none 0 0, .slice none 0 0, .bool false] 34)) := by kernel_rfl
theorem mk74 (W : World) : (Instr.makeSlice 74 (.int .i64 0) (.int .i64 0)).run Try.prog W = .ok (.slice (some ⟨W.heap.size, 0, none⟩) 0 0) (W.alloc (.cells #[] 76)) := by kernel_rfl

theorem heap3 (w : World) (A B D : Obj) : (((w.alloc A).alloc B).alloc D).heap[w.heap.size + 1 + 1]? = some D := by
  have := heap_alloc_new ((w.alloc A).alloc B) D
  rwa [szA, szA] at this

/-- The one entry's rule lies there. -/
structure RuleAt (eb gb vb ub rb : Nat) (rv rg rr : ByteArray) (ra : Bool) (ao : Option Addr) (n cap : Nat) (w : World) : Prop where
  e0 : w.cell? ⟨eb, 0, none⟩ = some (.slice (some ⟨gb, 0, none⟩) 1 1)
  e1 : w.cell? ⟨eb, 1, none⟩ = some (.slice none 0 0)
  g0 : w.cell? ⟨gb, 0, none⟩ = some (.slice (some ⟨vb, 0, none⟩) 1 1)
  g1 : w.cell? ⟨gb, 1, none⟩ = some (.slice (some ⟨ub, 0, none⟩) 1 1)
  g2 : w.cell? ⟨gb, 2, none⟩ = some (.slice (some ⟨rb, 0, none⟩) 1 1)
  g3 : w.cell? ⟨gb, 3, none⟩ = some (.slice ao n cap)
  g4 : w.cell? ⟨gb, 4, none⟩ = some (.slice none 0 0)
  g5 : w.cell? ⟨gb, 5, none⟩ = some (.bool ra)
  v0 : w.cell? ⟨vb, 0, none⟩ = some (.string rv)
  u0 : w.cell? ⟨ub, 0, none⟩ = some (.string rg)
  r0 : w.cell? ⟨rb, 0, none⟩ = some (.string rr)

set_option maxRecDepth 100000 in
set_option maxHeartbeats 2000000 in
theorem toRR_any (a b c d e : Option Addr) (i1 i2 i3 i4 i5 j1 j2 j3 j4 j5 : Nat) (ra : Bool) (w : World) :
    Calls Try.prog 15 #[.agg #[.slice a i1 j1, .slice b i2 j2, .slice c i3 j3, .slice d i4 j4, .slice e i5 j5, .bool ra]] w fun en w' =>
      en = .returned (.agg #[.slice a i1 j1, .slice b i2 j2, .slice c i3 j3, .slice d i4 j4, .slice e i5 j5, .bool ra]) ∧ Below w.heap.size w w' := by
  go_enter Try.func15, Try.ntmps15
  go_wp2
  refine bodyPost_ret (results_cell_row rfl _ _ (w.heap.size + 1) 34 #[.slice a i1 j1, .slice b i2 j2, .slice c i3 j3, .slice d i4 j4, .slice e i5 j5, .bool ra] (0, 0) _ rfl (heap_alloc2_new _ _ _) Try.underlying34 rfl (by kernel_rfl)) rfl ?_
  exact ⟨rfl, ((Below.refl _ _).alloc (Nat.le_refl _) _).alloc (by simp) _⟩

set_option maxRecDepth 100000 in
set_option maxHeartbeats 2000000 in
theorem toRRs_any {eb gb vb ub rb : Nat} {rv rg rr : ByteArray} {ra : Bool} {ao : Option Addr} {n cap : Nat} {w : World} (h : RuleAt eb gb vb ub rb rv rg rr ra ao n cap w) :
    Calls Try.prog 14 #[.slice (some ⟨gb, 0, none⟩) 1 1] w fun en w' => ∃ q, en = .returned (.slice (some ⟨q, 0, none⟩) 1 1) ∧ Below w.heap.size w w' ∧
      w'.heap[q]? = some (.cells #[.slice (some ⟨vb, 0, none⟩) 1 1, .slice (some ⟨ub, 0, none⟩) 1 1, .slice (some ⟨rb, 0, none⟩) 1 1, .slice ao n cap, .slice none 0 0, .bool ra] 34) := by
  have m := mk31
  have c0 := h.g0
  have c1 := h.g1
  have c2 := h.g2
  have c3 := h.g3
  have c4 := h.g4
  have c5 := h.g5
  have hlt := World.block_lt_of_cell? w _ c0
  go_enter Try.func14, Try.ntmps14
  go_wp2
  refine wp_loop_rounds 2 ?_
  rw [rounds_succ]
  go_wp2_with (go_in)
  refine bodyPost_ret (results_cell_row rfl _ _ (w.heap.size + 1 + 1) 34 #[.slice (some ⟨vb, 0, none⟩) 1 1, .slice (some ⟨ub, 0, none⟩) 1 1, .slice (some ⟨rb, 0, none⟩) 1 1, .slice ao n cap, .slice none 0 0, .bool ra] (0, 0) _ rfl (heap3 _ _ _ _) Try.underlying34 rfl (by kernel_rfl)) rfl ?_
  simp only []
  go_wp2
  rw [rounds_succ]
  go_wp2
  go_ret
  refine ⟨w.heap.size, rfl, ?_, ?_⟩
  · exact (((Below.refl _ _).alloc (Nat.le_refl _) _).alloc (by simp) _).alloc (by simp; omega) _
  · rw [Below.heap_alloc _ _ _ (by rw [szA, szA]; omega), Below.heap_alloc _ _ _ (by rw [szA]; omega)]
    exact Go.heap_alloc_new _ _

/-- What subjects hands back: one pointer to the entry's rules. -/
def Subj (vb ub rb : Nat) (ra : Bool) (ao : Option Addr) (n cap : Nat) (w : World) (en : Ending) (w' : World) : Prop :=
  ∃ sb pb q z, en = .returned (.slice (some ⟨sb, 0, none⟩) 1 1) ∧ Below w.heap.size w w' ∧ w'.cell? ⟨sb, 0, none⟩ = some (.pointer (some ⟨pb, 0, none⟩)) ∧ w'.cell? ⟨pb, 5, none⟩ = some (.slice (some ⟨q, 0, none⟩) 1 1) ∧ w'.cell? ⟨pb, 6, none⟩ = some (.slice z 0 0) ∧
    w'.heap[q]? = some (.cells #[.slice (some ⟨vb, 0, none⟩) 1 1, .slice (some ⟨ub, 0, none⟩) 1 1, .slice (some ⟨rb, 0, none⟩) 1 1, .slice ao n cap, .slice none 0 0, .bool ra] 34)

theorem RuleAt.below {eb gb vb ub rb : Nat} {rv rg rr : ByteArray} {ra : Bool} {ao : Option Addr} {n cap : Nat} {w w' : World} (h : RuleAt eb gb vb ub rb rv rg rr ra ao n cap w) (hb : Below w.heap.size w w') : RuleAt eb gb vb ub rb rv rg rr ra ao n cap w' :=
  ⟨cell_below' h.e0 hb, cell_below' h.e1 hb, cell_below' h.g0 hb, cell_below' h.g1 hb, cell_below' h.g2 hb, cell_below' h.g3 hb, cell_below' h.g4 hb, cell_below' h.g5 hb, cell_below' h.v0 hb, cell_below' h.u0 hb, cell_below' h.r0 hb⟩

set_option maxRecDepth 100000 in
set_option maxHeartbeats 2000000 in
theorem subjects_any {eb gb vb ub rb : Nat} {rv rg rr : ByteArray} {ra : Bool} {ao : Option Addr} {n cap : Nat} {w : World} (h : RuleAt eb gb vb ub rb rv rg rr ra ao n cap w) :
    Calls Try.prog 26 #[.slice (some ⟨eb, 0, none⟩) 1 1] w fun en w' => Subj vb ub rb ra ao n cap w en w' := by
  have m1 := mk46
  have m2 := mk74
  have c0 := h.e0
  have c1 := h.e1
  have hlt := World.block_lt_of_cell? w _ c0
  have hb0 : Below w.heap.size w (w.alloc (.cells #[.pointer none] 77)) := (Below.refl _ _).alloc (Nat.le_refl _) _
  have R := toRRs_any (h.below hb0)
  go_enter Try.func26, Try.ntmps26
  go_wp2
  refine wp_loop_rounds 2 ?_
  rw [rounds_succ]
  go_wp2_with fail
  go_at_call 14
  refine R.mono ?_
  rintro e w1 ⟨q, rfl, hb1, hq⟩
  clear R
  have hbel1 := hb0.trans (hb1.mono hb0.size)
  have d0 : w1.cell? ⟨w.heap.size, 0, none⟩ = some (.pointer none) := cell_below' (putA _ _ _ _ 0 _ rfl rfl) hb1
  have f0 : w1.frozen? ⟨w.heap.size, 0, none⟩ = false := by
    have := hb1.block w.heap.size (by rw [szA]; omega)
    unfold World.frozen?
    rw [this, Go.heap_alloc_new]
    rfl
  have c0 := cell_below' h.e0 hbel1
  have c1 := cell_below' h.e1 hbel1
  have HQ : Hid (w1.heap[q]? = some (.cells #[.slice (some ⟨vb, 0, none⟩) 1 1, .slice (some ⟨ub, 0, none⟩) 1 1, .slice (some ⟨rb, 0, none⟩) 1 1, .slice ao n cap, .slice none 0 0, .bool ra] 34)) := hq
  have hql : q < w1.heap.size := (Array.getElem?_eq_some_iff.1 hq).1
  clear hq
  have x1 : w.heap.size < w1.heap.size := World.block_lt_of_cell? w1 _ d0
  have x2 : w.heap.size < w1.heap.size + 1 := by omega
  have x3 : w.heap.size < w1.heap.size + 1 + 1 := by omega
  have x4 : w.heap.size ≠ w1.heap.size := by omega
  have x5 : w.heap.size ≠ w1.heap.size + 1 := by omega
  go_wp2_with fail
  refine wp_loop_rounds 1 ?_
  rw [rounds_succ]
  go_wp2
  rw [rounds_succ]
  go_wp2
  go_ret
  have hblk : w1.heap[w.heap.size]? = some (.cells #[.pointer none] 77) := (hb1.block w.heap.size (by rw [szA]; omega)).trans (Go.heap_alloc_new _ _)
  have hqn : q ≠ w.heap.size := fun e => by
    have e1 := HQ.out
    rw [e, hblk] at e1
    cases e1
  have hss : ∀ v, (w1.setCell ⟨w.heap.size, 0, none⟩ v).heap.size = w1.heap.size := fun v => by simp [World.setCell]
  have hsc : ∀ v, (w1.setCell ⟨w.heap.size, 0, none⟩ v).cell? ⟨w.heap.size, 0, none⟩ = some v := fun v => by
    unfold World.cell? World.setCell
    simp only [Array.getElem?_modify, if_pos, hblk]
    rfl
  refine ⟨w.heap.size, w1.heap.size + 1, q, some ⟨w1.heap.size, 0, none⟩, rfl, ?_, lift1 (lift1 (hsc _)), putA _ _ _ _ 5 _ (by rw [szA, hss]) rfl, putA _ _ _ _ 6 _ (by rw [szA, hss]) rfl, ?_⟩
  · have b1 := hbel1.setCell (p := ⟨w.heap.size, 0, none⟩) (Nat.le_refl _) (.pointer (some ⟨w1.heap.size + 1, 0, none⟩))
    have b2 := b1.alloc b1.size (.cells #[] 76)
    exact b2.alloc b2.size _
  · rw [Below.heap_alloc _ _ _ (by rw [szA, hss]; omega), Below.heap_alloc _ _ _ (by rw [hss]; omega), Below.heap_setCell _ _ _ _ hqn]
    exact HQ.out

theorem newCov_any (sb : Nat) (w : World) : Calls Try.prog 25 #[.slice (some ⟨sb, 0, none⟩) 1 1] w fun en w' =>
    en = .returned (.pointer (some ⟨w.heap.size, 0, none⟩)) ∧ (w.alloc (.cells #[.slice (some ⟨sb, 0, none⟩) 1 1, .map none, .map none] 73)) = w' := by
  go_enter Try.func25, Try.ntmps25
  go_wp2
  go_ret
  exact ⟨rfl, rfl⟩
end Go.Proofs.Qxb6606073a.W
