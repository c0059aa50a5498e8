import Derived.Test.Qxb6606073aMade
import Derived.Test.Qxb6606073aRes
import Derived.Test.Qxb6606073aZz
namespace Go.Proofs.Qxb6606073a.W
open Go.RowKit
set_option linter.unusedVariables false
set_option linter.unusedSimpArgs false

theorem zmade_any {C sb pb q vb ub rb : Nat} {z : Option Addr} {rv rg rr : ByteArray} {ra : Bool} {ao : Option Addr} {n cap : Nat} {ss : List ByteArray} {w : World} (h : MadeIn C sb pb q vb ub rb z rv rg rr ra ao n cap ss w)
    (h0 : rv.size ≤ maxLen) (h1 : rg.size ≤ maxLen) (h2 : rr.size ≤ maxLen) (hl : ss.length ≤ 1048576) :
    Calls Try.prog 27 #[.pointer (some ⟨C, 0, none⟩)] w fun e w' => e = .returned (.pointer (some ⟨C, 0, none⟩)) ∧ (∃ A M, CovAt C A M rv rg rr ra ss w') ∧ Below C w w' := by
  have R := made_any h h0 h1 h2 hl
  clear h
  go_enter Try.func27, Try.ntmps27
  go_wp2_with (go_at_call 48; refine R.mono ?_; rintro e w' ⟨rfl, hc, hb⟩)
  go_ret
  exact ⟨rfl, hc, hb⟩

def Built (rv rg rr : ByteArray) (ra : Bool) (ss : List ByteArray) (w : World) (e : Ending) (w' : World) : Prop :=
  ∃ C A M, e = .returned (.pointer (some ⟨C, 0, none⟩)) ∧ CovAt C A M rv rg rr ra ss w' ∧ Below w.heap.size w w'

theorem build_any {eb gb vb ub rb : Nat} {rv rg rr : ByteArray} {ra : Bool} {ao : Option Addr} {n cap : Nat} {ss : List ByteArray} {w : World} (h : RuleAt eb gb vb ub rb rv rg rr ra ao n cap w) (hS : StrsAt (.slice ao n cap) ss w)
    (h0 : rv.size ≤ maxLen) (h1 : rg.size ≤ maxLen) (h2 : rr.size ≤ maxLen) (hl : ss.length ≤ 1048576) :
    Calls Try.prog 32 #[.slice (some ⟨eb, 0, none⟩) 1 1] w fun e w' => Built rv rg rr ra ss w e w' := by
  have R := subjects_any h
  go_enter Try.func32, Try.ntmps32
  go_wp2_with fail
  go_at_call 26
  refine R.mono ?_
  rintro e w1 ⟨sb, pb, q, z, rfl, hb1, s0, p5, p6, hq⟩
  clear R
  go_wp2_with fail
  go_at_call 25
  refine (newCov_any sb w1).mono ?_
  rintro e w2 ⟨rfl, rfl⟩
  have h' := h.below hb1
  have hS1 := W.StrsAt.below hS hb1
  have I : MadeIn w1.heap.size sb pb q vb ub rb z rv rg rr ra ao n cap ss (w1.alloc (.cells #[.slice (some ⟨sb, 0, none⟩) 1 1, .map none, .map none] 73)) :=
    ⟨Go.heap_alloc_new _ _, lift1 s0, lift1 p5, lift1 p6, (Below.heap_alloc _ _ _ (Array.getElem?_eq_some_iff.1 hq).1).trans hq, lift1 h'.v0, lift1 h'.u0, lift1 h'.r0, W.StrsAt.below hS1 ((Below.refl _ _).alloc (Nat.le_refl _) _),
      World.block_lt_of_cell? w1 _ s0, World.block_lt_of_cell? w1 _ p5, (Array.getElem?_eq_some_iff.1 hq).1, World.block_lt_of_cell? w1 _ h'.v0, World.block_lt_of_cell? w1 _ h'.u0, World.block_lt_of_cell? w1 _ h'.r0, fun a e i hi => by
        rcases hS1 with ⟨_, e2⟩ | ⟨a', c, e2, _, _, g4, _⟩
        · subst e2; cases hi
        · cases e2; cases e; exact World.block_lt_of_cell? w1 _ (g4 i hi)⟩
  have R2 := zmade_any I h0 h1 h2 hl
  clear I h h' hS hS1 s0 p5 p6 hq
  go_wp2_with fail
  go_at_call 27
  refine R2.mono ?_
  rintro e w3 ⟨rfl, ⟨A, M, cov⟩, hb3⟩
  clear R2
  go_wp2
  go_ret
  exact ⟨_, A, M, rfl, cov, (hb1.alloc hb1.size _).trans (hb3.mono hb1.size)⟩

theorem zcover_any {sb C A : Nat} {M : Option Nat} {rv rg rr : ByteArray} {ra : Bool} {ss : List ByteArray} {w : World} (h : CovAt C A M rv rg rr ra ss w) (hs : w.cell? ⟨sb, 0, none⟩ = some (.pointer (some ⟨C, 0, none⟩))) (v g r : ByteArray) (an : Bool) (nm : ByteArray) (nd : Bool)
    (hv : v.size ≤ maxLen) (hg : g.size ≤ maxLen) (hn : nm.size ≤ maxLen) (hr : r.size ≤ 4096) :
    Calls Try.prog 38 #[.slice (some ⟨sb, 0, none⟩) 1 1, .string v, .string g, .string r, .bool an, .string nm, .bool nd] w fun e w' =>
      e = .returned (.bool (resB (fun x a => covB rv rg rr ra ss v g x a nm nd) r an)) ∧ Below w.heap.size w w' := by
  have R := cover_any h hs v g r an nm nd hv hg hn hr
  generalize resB (fun x a => covB rv rg rr ra ss v g x a nm nd) r an = b at R ⊢
  clear h hs
  go_enter Try.func38, Try.ntmps38
  go_wp2_with (go_at_call 50; refine R.mono ?_; rintro e w' ⟨rfl, hb⟩)
  go_ret
  exact ⟨rfl, hb⟩
end Go.Proofs.Qxb6606073a.W
