import Derived.Test.Qxb6606073aBuild
namespace Go.Proofs.Qxb6606073a.W
open Go.RowKit Go.Maps
set_option linter.unusedVariables false
set_option linter.unusedSimpArgs false

theorem hold_any {C A n0 n cap : Nat} {ao : Option Addr} {rv rg rr : ByteArray} {ra : Bool} {ss : List ByteArray} {w : World} (hc : w.cell? ⟨C, 1, none⟩ = some (.map (some A))) (hCA : C < A) (hown : w.ownsMap Try.prog 88 hR A n0 (.map [])) (hn0 : n0 ≤ 100)
    (h0 : rv.size ≤ maxLen) (h1 : rg.size ≤ maxLen) (h2 : rr.size ≤ maxLen) (hl : ss.length ≤ 1048576) (hS : StrsAt (.slice ao n cap) ss w) (hlow : ∀ a, ao = some a → ∀ i, i < ss.length → (a.add i).block < A) :
    Calls Try.prog 52 #[.pointer (some ⟨C, 0, none⟩), act rv rg rr ra, .slice ao n cap] w fun e w' => Holds C A rv rg rr ra ss w e w' := by
  by_cases h : ss = []
  · subst h
    have hn : n = 0 := by
      rcases hS with ⟨e, _⟩ | ⟨a, c, e, _⟩
      · cases e; rfl
      · cases e; rfl
    subst hn
    exact hold_empty ao cap hc hCA hown hn0 h0 h1 h2
  · rcases hS with ⟨_, e⟩ | ⟨a, c, e, g2, g3, g4, g5⟩
    · exact absurd e h
    · cases e
      exact hold_some a cap hc hCA hown hn0 h0 h1 h2 (List.length_pos_iff.2 h) hl g4 g5 (fun i hi => Nat.ne_of_lt (hlow a rfl i hi))

/-- What made reads. -/
structure MadeIn (C sb pb q vb ub rb : Nat) (z : Option Addr) (rv rg rr : ByteArray) (ra : Bool) (ao : Option Addr) (n cap : Nat) (ss : List ByteArray) (w : World) : Prop where
  blk : w.heap[C]? = some (.cells #[.slice (some ⟨sb, 0, none⟩) 1 1, .map none, .map none] 73)
  s0 : w.cell? ⟨sb, 0, none⟩ = some (.pointer (some ⟨pb, 0, none⟩))
  p5 : w.cell? ⟨pb, 5, none⟩ = some (.slice (some ⟨q, 0, none⟩) 1 1)
  p6 : w.cell? ⟨pb, 6, none⟩ = some (.slice z 0 0)
  rl : w.heap[q]? = some (.cells #[.slice (some ⟨vb, 0, none⟩) 1 1, .slice (some ⟨ub, 0, none⟩) 1 1, .slice (some ⟨rb, 0, none⟩) 1 1, .slice ao n cap, .slice none 0 0, .bool ra] 34)
  v0 : w.cell? ⟨vb, 0, none⟩ = some (.string rv)
  u0 : w.cell? ⟨ub, 0, none⟩ = some (.string rg)
  r0 : w.cell? ⟨rb, 0, none⟩ = some (.string rr)
  nm : StrsAt (.slice ao n cap) ss w
  hs : sb < C
  hp : pb < C
  hq : q < C
  hv : vb < C
  hu : ub < C
  hr : rb < C
  hlow : ∀ a, ao = some a → ∀ i, i < ss.length → (a.add i).block < C

/-- The world behind the two makes. -/
structure MadeW (C sb pb q vb ub rb : Nat) (z : Option Addr) (rv rg rr : ByteArray) (ra : Bool) (ao : Option Addr) (n cap : Nat) (ss : List ByteArray) (w W : World) : Prop where
  own : W.ownsMap Try.prog 88 hR w.heap.size 0 (.map [])
  c1 : W.cell? ⟨C, 1, none⟩ = some (.map (some w.heap.size))
  s0 : W.cell? ⟨sb, 0, none⟩ = some (.pointer (some ⟨pb, 0, none⟩))
  p5 : W.cell? ⟨pb, 5, none⟩ = some (.slice (some ⟨q, 0, none⟩) 1 1)
  p6 : W.cell? ⟨pb, 6, none⟩ = some (.slice z 0 0)
  q0 : W.cell? ⟨q, 0, none⟩ = some (.slice (some ⟨vb, 0, none⟩) 1 1)
  q1 : W.cell? ⟨q, 1, none⟩ = some (.slice (some ⟨ub, 0, none⟩) 1 1)
  q2 : W.cell? ⟨q, 2, none⟩ = some (.slice (some ⟨rb, 0, none⟩) 1 1)
  q3 : W.cell? ⟨q, 3, none⟩ = some (.slice ao n cap)
  q4 : W.cell? ⟨q, 4, none⟩ = some (.slice none 0 0)
  q5 : W.cell? ⟨q, 5, none⟩ = some (.bool ra)
  v0 : W.cell? ⟨vb, 0, none⟩ = some (.string rv)
  u0 : W.cell? ⟨ub, 0, none⟩ = some (.string rg)
  r0 : W.cell? ⟨rb, 0, none⟩ = some (.string rr)
  nm : StrsAt (.slice ao n cap) ss W
  bel : Below C w W

theorem MadeW.start {C sb pb q vb ub rb : Nat} {z : Option Addr} {rv rg rr : ByteArray} {ra : Bool} {ao : Option Addr} {n cap : Nat} {ss : List ByteArray} {w : World} (h : MadeIn C sb pb q vb ub rb z rv rg rr ra ao n cap ss w) :
    MadeW C sb pb q vb ub rb z rv rg rr ra ao n cap ss w ((((w.setCell ⟨C, 1, none⟩ (.map (some w.heap.size))).setCell ⟨C, 2, none⟩ (.map (some (w.heap.size + 1)))).alloc (.map #[] 0)).alloc (.map #[] 0)) := by
  have hC : C < w.heap.size := (Array.getElem?_eq_some_iff.1 h.blk).1
  have e1 : ((w.setCell ⟨C, 1, none⟩ (.map (some w.heap.size))).setCell ⟨C, 2, none⟩ (.map (some (w.heap.size + 1)))).heap.size = w.heap.size := by simp [World.setCell]
  have b0 : Below C w ((w.setCell ⟨C, 1, none⟩ (.map (some w.heap.size))).setCell ⟨C, 2, none⟩ (.map (some (w.heap.size + 1)))) := ((Below.refl _ _).setCell (p := ⟨C, 1, none⟩) (Nat.le_refl _) _).setCell (p := ⟨C, 2, none⟩) (Nat.le_refl _) _
  have b1 := b0.alloc (by rw [e1]; exact Nat.le_of_lt hC) (.map #[] 0)
  have b2 := b1.alloc (Nat.le_trans (Nat.le_of_lt hC) b1.size) (.map #[] 0)
  have up : ∀ {a : Addr} {x : Value}, a.block < C → w.cell? a = some x → ((((w.setCell ⟨C, 1, none⟩ (.map (some w.heap.size))).setCell ⟨C, 2, none⟩ (.map (some (w.heap.size + 1)))).alloc (.map #[] 0)).alloc (.map #[] 0)).cell? a = some x := fun ha hx => (b2.cell ha).trans hx
  have qc : ∀ (i : Nat) (x : Value), (#[.slice (some ⟨vb, 0, none⟩) 1 1, .slice (some ⟨ub, 0, none⟩) 1 1, .slice (some ⟨rb, 0, none⟩) 1 1, .slice ao n cap, .slice none 0 0, .bool ra] : Array Value)[i]? = some x → w.cell? ⟨q, i, none⟩ = some x := fun i x hx => by
    unfold World.cell?
    rw [h.rl]
    exact hx
  have st := (World.ownsMap_made ((w.setCell ⟨C, 1, none⟩ (.map (some w.heap.size))).setCell ⟨C, 2, none⟩ (.map (some (w.heap.size + 1)))) Try.prog 88 hR).alloc (.map #[] 0)
  rw [e1] at st
  refine ⟨st, ?_, up h.hs h.s0, up h.hp h.p5, up h.hp h.p6, up h.hq (qc 0 _ rfl), up h.hq (qc 1 _ rfl), up h.hq (qc 2 _ rfl), up h.hq (qc 3 _ rfl), up h.hq (qc 4 _ rfl), up h.hq (qc 5 _ rfl), up h.hv h.v0, up h.hu h.u0, up h.hr h.r0, ?_, b2⟩
  · refine lift1 (lift1 ?_)
    unfold World.cell? World.setCell
    simp only [Array.getElem?_modify, if_pos, h.blk]
    rfl
  · rcases h.nm with e | ⟨a, c, g1, g2, g3, g4, g5⟩
    · exact .inl e
    · cases g1
      exact .inr ⟨a, cap, rfl, g2, g3, fun i hi => up (h.hlow a rfl i hi) (g4 i hi), g5⟩

set_option maxRecDepth 100000 in
set_option maxHeartbeats 2000000 in
theorem made_any {C sb pb q vb ub rb : Nat} {z : Option Addr} {rv rg rr : ByteArray} {ra : Bool} {ao : Option Addr} {n cap : Nat} {ss : List ByteArray} {w : World} (h : MadeIn C sb pb q vb ub rb z rv rg rr ra ao n cap ss w)
    (h0 : rv.size ≤ maxLen) (h1 : rg.size ≤ maxLen) (h2 : rr.size ≤ maxLen) (hl : ss.length ≤ 1048576) :
    Calls Try.prog 48 #[.pointer (some ⟨C, 0, none⟩)] w fun e w' => e = .returned (.pointer (some ⟨C, 0, none⟩)) ∧ (∃ A M, CovAt C A M rv rg rr ra ss w') ∧ Below C w w' := by
  have k0 : w.cell? ⟨C, 0, none⟩ = some (.slice (some ⟨sb, 0, none⟩) 1 1) := by unfold World.cell?; rw [h.blk]; rfl
  have k1 : w.cell? ⟨C, 1, none⟩ = some (.map none) := by unfold World.cell?; rw [h.blk]; rfl
  have k2 : w.cell? ⟨C, 2, none⟩ = some (.map none) := by unfold World.cell?; rw [h.blk]; rfl
  have f1 : w.frozen? ⟨C, 1, none⟩ = false := by unfold World.frozen?; rw [h.blk]; rfl
  have f2 : w.frozen? ⟨C, 2, none⟩ = false := by unfold World.frozen?; rw [h.blk]; rfl
  have hC := World.block_lt_of_cell? w _ k0
  have hneq : ∀ W : World, (binOp .neq 70 (.map none) (.map none)).run Try.prog W = .ok (.bool false) W := fun W => by
    simp only [binOp]
    simp [Op.equal, Op.maxDepth, run_equalIn_nil_map W 9999 70 88 92 none Try.underlying70]
  have hmm := @run_makeMap Try.prog
  have s0 := h.s0
  have p5 := h.p5
  have p6 := h.p6
  have x1 := h.hs
  have x2 := h.hp
  go_enter Try.func48, Try.ntmps48
  go_wp2
  have F := MadeW.start h
  generalize ((((w.setCell ⟨C, 1, none⟩ (.map (some w.heap.size))).setCell ⟨C, 2, none⟩ (.map (some (w.heap.size + 1)))).alloc (.map #[] 0)).alloc (.map #[] 0)) = W1 at F ⊢
  clear k0 k1 k2 f1 f2 s0 p5 p6 x1 x2 hneq hmm
  have s0 := F.s0
  have p5 := F.p5
  have p6 := F.p6
  have q0 := F.q0
  have q1 := F.q1
  have q2 := F.q2
  have q3 := F.q3
  have q4 := F.q4
  have q5 := F.q5
  have v0 := F.v0
  have u0 := F.u0
  have r0 := F.r0
  have y1 := World.block_lt_of_cell? W1 _ s0
  have y2 := World.block_lt_of_cell? W1 _ p5
  have y3 := World.block_lt_of_cell? W1 _ q0
  have y4 := World.block_lt_of_cell? W1 _ v0
  have y5 := World.block_lt_of_cell? W1 _ u0
  have y6 := World.block_lt_of_cell? W1 _ r0
  have R := hold_any (ra := ra) (lift1 (o := .cells #[.slice (some ⟨vb, 0, none⟩) 1 1, .slice (some ⟨ub, 0, none⟩) 1 1, .slice (some ⟨rb, 0, none⟩) 1 1, .slice ao n cap, .slice none 0 0, .bool ra] 34) F.c1) hC (F.own.alloc _) (by omega) h0 h1 h2 hl (W.StrsAt.below F.nm ((Below.refl _ _).alloc (Nat.le_refl _) _)) (fun a e i hi => Nat.lt_trans (h.hlow a e i hi) hC)
  refine wp_loop_rounds 2 ?_
  rw [rounds_succ]
  go_wp2
  refine wp_loop_rounds 2 ?_
  rw [rounds_succ]
  go_wp2
  refine wp_loop_rounds 2 ?_
  rw [rounds_succ]
  go_wp2
  refine wp_loop_rounds 2 ?_
  rw [rounds_succ]
  go_wp2
  refine wp_loop_rounds 2 ?_
  rw [rounds_succ]
  go_wp2_with fail
  go_at_call 52
  refine R.mono ?_
  rintro e W2 ⟨rfl, ⟨M, cov⟩, hb2⟩
  have hpw : pb < w.heap.size := Nat.lt_trans h.hp hC
  have p6' : W2.cell? ⟨pb, 6, none⟩ = some (.slice z 0 0) := (hb2.cell (p := ⟨pb, 6, none⟩) hpw).trans (lift1 p6)
  have hbel : Below C w W2 := F.bel.trans ((((Below.refl _ _).alloc (Nat.le_refl _) _ : Below W1.heap.size W1 _).mono (Nat.le_of_lt (Nat.lt_trans hC F.own.lt))).trans (hb2.mono (Nat.le_of_lt hC)))
  clear R s0 p5 p6 q0 q1 q2 q3 q4 q5 v0 u0 r0 y1 y2 y3 y4 y5 y6
  go_wp2
  rw [rounds_succ]
  go_wp2
  rw [rounds_succ]
  go_wp2
  rw [rounds_succ]
  go_wp2
  rw [rounds_succ]
  go_wp2
  refine wp_loop_rounds 1 ?_
  rw [rounds_succ]
  go_wp2
  rw [rounds_succ]
  go_wp2
  go_ret
  exact ⟨rfl, ⟨_, M, cov⟩, hbel⟩
end Go.Proofs.Qxb6606073a.W
