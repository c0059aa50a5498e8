import Derived.Test.Qxb6606073aCw
namespace Go.Proofs.Qxb6606073a.W
open Go.RowKit Go.Maps
set_option linter.unusedVariables false
set_option linter.unusedSimpArgs false

/-- What coverResource's closure has captured. -/
structure Env (e0 e1 e2 e3 e4 sb C A : Nat) (M : Option Nat) (rv rg rr : ByteArray) (ra : Bool) (ss : List ByteArray) (v g nm : ByteArray) (nd : Bool) (w : World) : Prop where
  c0 : w.cell? ⟨e0, 0, none⟩ = some (.slice (some ⟨sb, 0, none⟩) 1 1)
  cs : w.cell? ⟨sb, 0, none⟩ = some (.pointer (some ⟨C, 0, none⟩))
  c1 : w.cell? ⟨e1, 0, none⟩ = some (.string v)
  c2 : w.cell? ⟨e2, 0, none⟩ = some (.string g)
  c3 : w.cell? ⟨e3, 0, none⟩ = some (.string nm)
  c4 : w.cell? ⟨e4, 0, none⟩ = some (.bool nd)
  cov : CovAt C A M rv rg rr ra ss w
  hv : v.size ≤ maxLen
  hg : g.size ≤ maxLen
  hn : nm.size ≤ maxLen

theorem cell_below {w w' : World} {a : Addr} {x : Value} (h : w.cell? a = some x) (hb : Below w.heap.size w w') : w'.cell? a = some x := (hb.cell (World.block_lt_of_cell? w _ h)).trans h

theorem Env.below {e0 e1 e2 e3 e4 sb C A : Nat} {M : Option Nat} {rv rg rr : ByteArray} {ra : Bool} {ss : List ByteArray} {v g nm : ByteArray} {nd : Bool} {w w' : World} (h : Env e0 e1 e2 e3 e4 sb C A M rv rg rr ra ss v g nm nd w) (hb : Below w.heap.size w w') :
    Env e0 e1 e2 e3 e4 sb C A M rv rg rr ra ss v g nm nd w' :=
  ⟨cell_below h.c0 hb, cell_below h.cs hb, cell_below h.c1 hb, cell_below h.c2 hb, cell_below h.c3 hb, cell_below h.c4 hb, h.cov.below hb, h.hv, h.hg, h.hn⟩

theorem inner_any {e0 e1 e2 e3 e4 sb C A : Nat} {M : Option Nat} {rv rg rr : ByteArray} {ra : Bool} {ss : List ByteArray} {v g nm : ByteArray} {nd : Bool} {w : World} (h : Env e0 e1 e2 e3 e4 sb C A M rv rg rr ra ss v g nm nd w)
    (er : Nat) (r : ByteArray) (an : Bool) (hr : r.size ≤ maxLen) (r0 : w.cell? ⟨er, 0, none⟩ = some (.string r)) (r1 : w.cell? ⟨er, 1, none⟩ = some (.bool an)) :
    Calls Try.prog 55 #[.pointer (some ⟨C, 0, none⟩), .pointer (some ⟨e1, 0, none⟩), .pointer (some ⟨e2, 0, none⟩), .pointer (some ⟨er, 0, none⟩), .pointer (some ⟨e3, 0, none⟩), .pointer (some ⟨e4, 0, none⟩)] w fun e w' =>
      e = .returned (.bool (covB rv rg rr ra ss v g r an nm nd)) ∧ Below w.heap.size w w' := by
  have c1 := h.c1
  have c2 := h.c2
  have c3 := h.c3
  have c4 := h.c4
  have R := covers_any h.cov v g r an nm nd h.hv h.hg hr h.hn
  generalize covB rv rg rr ra ss v g r an nm nd = b at R ⊢
  go_enter Try.func55, Try.ntmps55
  go_wp2_with (go_at_call 49; refine R.mono ?_; rintro e w' ⟨rfl, hb⟩)
  go_ret
  exact ⟨rfl, hb⟩

set_option maxRecDepth 100000 in
theorem index_any {e0 e1 e2 e3 e4 sb C A : Nat} {M : Option Nat} {rv rg rr : ByteArray} {ra : Bool} {ss : List ByteArray} {v g nm : ByteArray} {nd : Bool} {w : World} (h : Env e0 e1 e2 e3 e4 sb C A M rv rg rr ra ss v g nm nd w)
    (er : Nat) (r : ByteArray) (an : Bool) (hr : r.size ≤ maxLen) (r0 : w.cell? ⟨er, 0, none⟩ = some (.string r)) (r1 : w.cell? ⟨er, 1, none⟩ = some (.bool an)) :
    Calls Try.prog 57 #[.slice (some ⟨sb, 0, none⟩) 1 1, .func (.func 55) #[] #[.pointer (some ⟨e1, 0, none⟩), .pointer (some ⟨e2, 0, none⟩), .pointer (some ⟨er, 0, none⟩), .pointer (some ⟨e3, 0, none⟩), .pointer (some ⟨e4, 0, none⟩)]] w fun e w' =>
      e = .returned (.int .i64 (if covB rv rg rr ra ss v g r an nm nd then 0 else -1)) ∧ Below w.heap.size w w' := by
  have cs := h.cs
  have R := inner_any h er r an hr r0 r1
  generalize covB rv rg rr ra ss v g r an nm nd = b at R ⊢
  go_enter Try.func57, Try.ntmps57
  go_wp2
  refine wp_loop_rounds 2 ?_
  rw [rounds_succ]
  cases b with
  | true =>
    go_wp2_with (go_at_call 55; refine R.mono ?_; rintro e w' ⟨rfl, hb⟩)
    go_ret
    exact ⟨rfl, hb⟩
  | false =>
    go_wp2_with (go_at_call 55; refine R.mono ?_; rintro e w' ⟨rfl, hb⟩)
    rw [rounds_succ]
    go_wp2
    go_ret
    exact ⟨rfl, hb⟩

theorem contains_any {e0 e1 e2 e3 e4 sb C A : Nat} {M : Option Nat} {rv rg rr : ByteArray} {ra : Bool} {ss : List ByteArray} {v g nm : ByteArray} {nd : Bool} {w : World} (h : Env e0 e1 e2 e3 e4 sb C A M rv rg rr ra ss v g nm nd w)
    (er : Nat) (r : ByteArray) (an : Bool) (hr : r.size ≤ maxLen) (r0 : w.cell? ⟨er, 0, none⟩ = some (.string r)) (r1 : w.cell? ⟨er, 1, none⟩ = some (.bool an)) :
    Calls Try.prog 54 #[.slice (some ⟨sb, 0, none⟩) 1 1, .func (.func 55) #[] #[.pointer (some ⟨e1, 0, none⟩), .pointer (some ⟨e2, 0, none⟩), .pointer (some ⟨er, 0, none⟩), .pointer (some ⟨e3, 0, none⟩), .pointer (some ⟨e4, 0, none⟩)]] w fun e w' =>
      e = .returned (.bool (covB rv rg rr ra ss v g r an nm nd)) ∧ Below w.heap.size w w' := by
  have R := index_any h er r an hr r0 r1
  generalize covB rv rg rr ra ss v g r an nm nd = b at R ⊢
  cases b with
  | true =>
    go_enter Try.func54, Try.ntmps54
    go_wp2_with (go_at_call 57; refine R.mono ?_; rintro e w' ⟨rfl, hb⟩)
    go_ret
    exact ⟨rfl, hb⟩
  | false =>
    go_enter Try.func54, Try.ntmps54
    go_wp2_with (go_at_call 57; refine R.mono ?_; rintro e w' ⟨rfl, hb⟩)
    go_ret
    exact ⟨rfl, hb⟩

theorem held_any {e0 e1 e2 e3 e4 sb C A : Nat} {M : Option Nat} {rv rg rr : ByteArray} {ra : Bool} {ss : List ByteArray} {v g nm : ByteArray} {nd : Bool} {w : World} (h : Env e0 e1 e2 e3 e4 sb C A M rv rg rr ra ss v g nm nd w)
    (r : ByteArray) (an : Bool) (hr : r.size ≤ maxLen) :
    Calls Try.prog 53 #[.agg #[.string r, .bool an], .pointer (some ⟨e0, 0, none⟩), .pointer (some ⟨e1, 0, none⟩), .pointer (some ⟨e2, 0, none⟩), .pointer (some ⟨e3, 0, none⟩), .pointer (some ⟨e4, 0, none⟩)] w fun e w' =>
      e = .returned (.bool (covB rv rg rr ra ss v g r an nm nd)) ∧ Below w.heap.size w w' := by
  have hb0 : Below w.heap.size w (w.alloc (.cells #[.string r, .bool an] 83)) := (Below.refl _ _).alloc (Nat.le_refl _) _
  have R := contains_any (h.below hb0) w.heap.size r an hr (by simp) (by simp)
  have c0 := (h.below hb0).c0
  have cc := h.c0
  have hl := World.block_lt_of_cell? w _ h.c0
  generalize covB rv rg rr ra ss v g r an nm nd = b at R ⊢
  go_enter Try.func53, Try.ntmps53
  go_wp2_with (go_at_call 54; refine R.mono ?_; rintro e w' ⟨rfl, hb⟩)
  go_ret
  exact ⟨rfl, hb0.trans (hb.mono hb0.size)⟩
end Go.Proofs.Qxb6606073a.W
