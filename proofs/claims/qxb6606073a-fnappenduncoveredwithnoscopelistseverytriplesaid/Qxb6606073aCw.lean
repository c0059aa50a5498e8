import Derived.Test.Qxb6606073aCov
import Derived.Deep.QuietTactic
import Derived.BigQuiet
import Derived.LoopN
import Derived.Deep.Cut
import Derived.Deep.DeepCutAuto
import Derived.Laws.IdiomArrays
namespace Go.Proofs.Qxb6606073a.W
open Go.RowKit Go.Maps
set_option linter.unusedVariables false
set_option linter.unusedSimpArgs false

theorem idx0 (W : World) (x y : ByteArray) : (Instr.index 89 (.agg #[.string x, .string y]) (.int .i64 0)).run Try.prog W = .ok (.string x) W := by
  simp [Instr.index, asIntOf, run_underlying Try.underlying89, part, Try.sizeOf9, Try.isAgg9]
theorem idx1 (W : World) (x y : ByteArray) : (Instr.index 89 (.agg #[.string x, .string y]) (.int .i64 1)).run Try.prog W = .ok (.string y) W := by
  simp [Instr.index, asIntOf, run_underlying Try.underlying89, part, Try.sizeOf9, Try.isAgg9]

/-- The world inside covers: the argument's box lies there. -/
structure St (w : World) (r : ByteArray) (an : Bool) (W : World) : Prop where
  bel : Below w.heap.size w W
  b0 : W.cell? ⟨w.heap.size, 0, none⟩ = some (.string r)
  b1 : W.cell? ⟨w.heap.size, 1, none⟩ = some (.bool an)

theorem St.lt {w : World} {r : ByteArray} {an : Bool} {W : World} (h : St w r an W) : w.heap.size < W.heap.size := World.block_lt_of_cell? W _ h.b0

theorem St.start (w : World) (r : ByteArray) (an : Bool) : St w r an (w.alloc (.cells #[.string r, .bool an] 83)) :=
  ⟨(Below.refl _ _).alloc (Nat.le_refl _) _, by simp, by simp⟩

theorem St.drew {w : World} {r : ByteArray} {an : Bool} {W : World} (h : St w r an W) : St w r an W.drew := ⟨h.bel.drew, h.b0, h.b1⟩

theorem St.alloc {w : World} {r : ByteArray} {an : Bool} {W : World} (h : St w r an W) (o : Obj) : St w r an (W.alloc o) :=
  have hb : Below W.heap.size W (W.alloc o) := (Below.refl _ _).alloc (Nat.le_refl _) _
  ⟨h.bel.alloc (Nat.le_of_lt h.lt) o, (hb.cell (p := ⟨w.heap.size, 0, none⟩) h.lt).trans h.b0, (hb.cell (p := ⟨w.heap.size, 1, none⟩) h.lt).trans h.b1⟩

set_option maxRecDepth 100000 in
set_option maxHeartbeats 8000000 in
theorem covers_t {C A : Nat} {M : Option Nat} {rv rg rr : ByteArray} {ra : Bool} {ss : List ByteArray} {w : World} (h : CovAt C A M rv rg rr ra ss w) (v g r : ByteArray) (an : Bool) (nm : ByteArray)
    (hv : v.size ≤ maxLen) (hg : g.size ≤ maxLen) (hr : r.size ≤ maxLen) (hn : nm.size ≤ maxLen) :
    Calls Try.prog 49 #[.pointer (some ⟨C, 0, none⟩), .string v, .string g, .agg #[.string r, .bool an], .string nm, .bool true] w fun e w' =>
      e = .returned (.bool (covB rv rg rr ra ss v g r an nm true)) ∧ Below w.heap.size w w' := by
  have hs : star.size ≤ maxLen := by decide
  have i0 := idx0
  have i1 := idx1
  go_enter Try.func49, Try.ntmps49
  go_wp2
  refine wp_loop_rounds 3 ?_
  rw [rounds_succ]
  go_wp2
  refine wp_loop_rounds 3 ?_
  rw [rounds_succ]
  go_upto_region 7 with fail
  have S0 := St.start w r an
  generalize (w.alloc (.cells #[.string r, .bool an] 83)) = W0 at S0 ⊢
  have c1 := (h.below S0.bel).cell
  have hC := World.block_lt_of_cell? W0 _ c1
  have b0 := S0.b0
  have b1 := S0.b1
  have hlt := S0.lt
  have la := (h.below S0.drew.bel).look (a := v) (b := g) an hv hg hr
  have lb := (h.below (S0.alloc (.cells #[.bool false, .map none] 92)).drew.bel).look (a := v) (b := g) an hv hg hr
  have ln := fun W (hW : Below w.heap.size w W) => (h.below hW).name (hit rv rg rr ra v g r an) hn
  have o1 : one rv rg rr ra ss v g r an nm true = ((hit rv rg rr ra v g r an && ss.isEmpty) || true && (hit rv rg rr ra v g r an && (!ss.isEmpty) && mem nm ss)) := rfl
  generalize (hit rv rg rr ra v g r an && ss.isEmpty) = t0 at la lb o1
  generalize (hit rv rg rr ra v g r an && (!ss.isEmpty) && mem nm ss) = t2 at ln o1
  generalize (if hit rv rg rr ra v g r an = true then M else none) = M0 at la lb ln
  have O0 : Hid (one rv rg rr ra ss v g r an nm true = (t0 || true && t2)) := o1
  have LN : Hid (∀ W, Below w.heap.size w W → (Instr.lookup 90 (.map M0) (.string nm) false).run Try.prog W = .ok (.bool t2) W) := ln
  clear o1 ln
  go_cut [17] from 28 to 36 (fun p wx => p = .pointer (some ⟨W0.heap.size, 0, none⟩) ∧ (Hid ((W0.alloc (.cells #[.bool t0, .map M0] 92)).drew = wx)))
  case first =>
    go_region
    all_goals (go_wp2_with fail; go_meet; case rel => exact ⟨rfl, rfl⟩)
  case rest =>
  obtain ⟨rfl, HW⟩ := hcut
  obtain rfl := HW.out
  clear HW
  have T0 := (S0.alloc (.cells #[.bool t0, .map M0] 92)).drew
  have lw := LN.out _ T0.bel
  clear la lb LN
  cases t0 with
  | true =>
    go_wp2
    go_ret
    refine ⟨?_, T0.bel⟩
    rw [cov_ones]
    have := O0.out
    simp at this
    simp [this]
  | false =>
  cases t2 with
  | true =>
    go_wp2
    go_ret
    refine ⟨?_, T0.bel⟩
    rw [cov_ones]
    have := O0.out
    simp at this
    simp [this]
  | false =>
  go_wp2
  rw [rounds_succ]
  go_upto_region 7 with fail
  have S1 := T0
  generalize (W0.alloc (.cells #[.bool false, .map M0] 92)).drew = W1 at S1 T0 ⊢
  clear T0 lw c1 hC b0 b1 hlt
  have c1 := (h.below S1.bel).cell
  have hC := World.block_lt_of_cell? W1 _ c1
  have b0 := S1.b0
  have b1 := S1.b1
  have hlt := S1.lt
  have la := (h.below S1.drew.bel).look (a := v) (b := star) an hv hs hr
  have lb := (h.below (S1.alloc (.cells #[.bool false, .map none] 92)).drew.bel).look (a := v) (b := star) an hv hs hr
  have ln := fun W (hW : Below w.heap.size w W) => (h.below hW).name (hit rv rg rr ra v star r an) hn
  have o1 : one rv rg rr ra ss v star r an nm true = ((hit rv rg rr ra v star r an && ss.isEmpty) || true && (hit rv rg rr ra v star r an && (!ss.isEmpty) && mem nm ss)) := rfl
  generalize (hit rv rg rr ra v star r an && ss.isEmpty) = t0 at la lb o1
  generalize (hit rv rg rr ra v star r an && (!ss.isEmpty) && mem nm ss) = t2 at ln o1
  generalize (if hit rv rg rr ra v star r an = true then M else none) = M1 at la lb ln
  have O1 : Hid (one rv rg rr ra ss v star r an nm true = (t0 || true && t2)) := o1
  have LN : Hid (∀ W, Below w.heap.size w W → (Instr.lookup 90 (.map M1) (.string nm) false).run Try.prog W = .ok (.bool t2) W) := ln
  clear o1 ln
  unfold star at la lb
  go_cut [17] from 28 to 36 (fun p wx => p = .pointer (some ⟨W1.heap.size, 0, none⟩) ∧ (Hid ((W1.alloc (.cells #[.bool t0, .map M1] 92)).drew = wx)))
  case first =>
    go_region
    all_goals (go_wp2_with fail; go_meet; case rel => exact ⟨rfl, rfl⟩)
  case rest =>
  obtain ⟨rfl, HW⟩ := hcut
  obtain rfl := HW.out
  clear HW
  have T1 := (S1.alloc (.cells #[.bool t0, .map M1] 92)).drew
  have lw := LN.out _ T1.bel
  clear la lb LN
  cases t0 with
  | true =>
    go_wp2
    go_ret
    refine ⟨?_, T1.bel⟩
    rw [cov_ones]
    have := O1.out
    simp at this
    simp [this]
  | false =>
  cases t2 with
  | true =>
    go_wp2
    go_ret
    refine ⟨?_, T1.bel⟩
    rw [cov_ones]
    have := O1.out
    simp at this
    simp [this]
  | false =>
  go_wp2
  rw [rounds_succ]
  go_wp2
  rw [rounds_succ]
  go_wp2
  refine wp_loop_rounds 3 ?_
  rw [rounds_succ]
  go_upto_region 7 with fail
  have S2 := T1
  generalize (W1.alloc (.cells #[.bool false, .map M1] 92)).drew = W2 at S2 T1 ⊢
  clear T1 lw c1 hC b0 b1 hlt
  have c1 := (h.below S2.bel).cell
  have hC := World.block_lt_of_cell? W2 _ c1
  have b0 := S2.b0
  have b1 := S2.b1
  have hlt := S2.lt
  have la := (h.below S2.drew.bel).look (a := star) (b := g) an hs hg hr
  have lb := (h.below (S2.alloc (.cells #[.bool false, .map none] 92)).drew.bel).look (a := star) (b := g) an hs hg hr
  have ln := fun W (hW : Below w.heap.size w W) => (h.below hW).name (hit rv rg rr ra star g r an) hn
  have o1 : one rv rg rr ra ss star g r an nm true = ((hit rv rg rr ra star g r an && ss.isEmpty) || true && (hit rv rg rr ra star g r an && (!ss.isEmpty) && mem nm ss)) := rfl
  generalize (hit rv rg rr ra star g r an && ss.isEmpty) = t0 at la lb o1
  generalize (hit rv rg rr ra star g r an && (!ss.isEmpty) && mem nm ss) = t2 at ln o1
  generalize (if hit rv rg rr ra star g r an = true then M else none) = M2 at la lb ln
  have O2 : Hid (one rv rg rr ra ss star g r an nm true = (t0 || true && t2)) := o1
  have LN : Hid (∀ W, Below w.heap.size w W → (Instr.lookup 90 (.map M2) (.string nm) false).run Try.prog W = .ok (.bool t2) W) := ln
  clear o1 ln
  unfold star at la lb
  go_cut [17] from 28 to 36 (fun p wx => p = .pointer (some ⟨W2.heap.size, 0, none⟩) ∧ (Hid ((W2.alloc (.cells #[.bool t0, .map M2] 92)).drew = wx)))
  case first =>
    go_region
    all_goals (go_wp2_with fail; go_meet; case rel => exact ⟨rfl, rfl⟩)
  case rest =>
  obtain ⟨rfl, HW⟩ := hcut
  obtain rfl := HW.out
  clear HW
  have T2 := (S2.alloc (.cells #[.bool t0, .map M2] 92)).drew
  have lw := LN.out _ T2.bel
  clear la lb LN
  cases t0 with
  | true =>
    go_wp2
    go_ret
    refine ⟨?_, T2.bel⟩
    rw [cov_ones]
    have := O2.out
    simp at this
    simp [this]
  | false =>
  cases t2 with
  | true =>
    go_wp2
    go_ret
    refine ⟨?_, T2.bel⟩
    rw [cov_ones]
    have := O2.out
    simp at this
    simp [this]
  | false =>
  go_wp2
  rw [rounds_succ]
  go_upto_region 7 with fail
  have S3 := T2
  generalize (W2.alloc (.cells #[.bool false, .map M2] 92)).drew = W3 at S3 T2 ⊢
  clear T2 lw c1 hC b0 b1 hlt
  have c1 := (h.below S3.bel).cell
  have hC := World.block_lt_of_cell? W3 _ c1
  have b0 := S3.b0
  have b1 := S3.b1
  have hlt := S3.lt
  have la := (h.below S3.drew.bel).look (a := star) (b := star) an hs hs hr
  have lb := (h.below (S3.alloc (.cells #[.bool false, .map none] 92)).drew.bel).look (a := star) (b := star) an hs hs hr
  have ln := fun W (hW : Below w.heap.size w W) => (h.below hW).name (hit rv rg rr ra star star r an) hn
  have o1 : one rv rg rr ra ss star star r an nm true = ((hit rv rg rr ra star star r an && ss.isEmpty) || true && (hit rv rg rr ra star star r an && (!ss.isEmpty) && mem nm ss)) := rfl
  generalize (hit rv rg rr ra star star r an && ss.isEmpty) = t0 at la lb o1
  generalize (hit rv rg rr ra star star r an && (!ss.isEmpty) && mem nm ss) = t2 at ln o1
  generalize (if hit rv rg rr ra star star r an = true then M else none) = M3 at la lb ln
  have O3 : Hid (one rv rg rr ra ss star star r an nm true = (t0 || true && t2)) := o1
  have LN : Hid (∀ W, Below w.heap.size w W → (Instr.lookup 90 (.map M3) (.string nm) false).run Try.prog W = .ok (.bool t2) W) := ln
  clear o1 ln
  unfold star at la lb
  go_cut [17] from 28 to 36 (fun p wx => p = .pointer (some ⟨W3.heap.size, 0, none⟩) ∧ (Hid ((W3.alloc (.cells #[.bool t0, .map M3] 92)).drew = wx)))
  case first =>
    go_region
    all_goals (go_wp2_with fail; go_meet; case rel => exact ⟨rfl, rfl⟩)
  case rest =>
  obtain ⟨rfl, HW⟩ := hcut
  obtain rfl := HW.out
  clear HW
  have T3 := (S3.alloc (.cells #[.bool t0, .map M3] 92)).drew
  have lw := LN.out _ T3.bel
  clear la lb LN
  cases t0 with
  | true =>
    go_wp2
    go_ret
    refine ⟨?_, T3.bel⟩
    rw [cov_ones]
    have := O3.out
    simp at this
    simp [this]
  | false =>
  cases t2 with
  | true =>
    go_wp2
    go_ret
    refine ⟨?_, T3.bel⟩
    rw [cov_ones]
    have := O3.out
    simp at this
    simp [this]
  | false =>
  go_wp2
  rw [rounds_succ]
  go_wp2
  rw [rounds_succ]
  go_wp2
  go_ret
  refine ⟨?_, T3.bel⟩
  rw [cov_ones]
  have e0 := O0.out
  have e1 := O1.out
  have e2 := O2.out
  have e3 := O3.out
  simp at e0 e1 e2 e3
  simp [e0, e1, e2, e3]

set_option maxRecDepth 100000 in
set_option maxHeartbeats 8000000 in
theorem covers_f {C A : Nat} {M : Option Nat} {rv rg rr : ByteArray} {ra : Bool} {ss : List ByteArray} {w : World} (h : CovAt C A M rv rg rr ra ss w) (v g r : ByteArray) (an : Bool) (nm : ByteArray)
    (hv : v.size ≤ maxLen) (hg : g.size ≤ maxLen) (hr : r.size ≤ maxLen) (hn : nm.size ≤ maxLen) :
    Calls Try.prog 49 #[.pointer (some ⟨C, 0, none⟩), .string v, .string g, .agg #[.string r, .bool an], .string nm, .bool false] w fun e w' =>
      e = .returned (.bool (covB rv rg rr ra ss v g r an nm false)) ∧ Below w.heap.size w w' := by
  have hs : star.size ≤ maxLen := by decide
  have i0 := idx0
  have i1 := idx1
  go_enter Try.func49, Try.ntmps49
  go_wp2
  refine wp_loop_rounds 3 ?_
  rw [rounds_succ]
  go_wp2
  refine wp_loop_rounds 3 ?_
  rw [rounds_succ]
  go_upto_region 7 with fail
  have S0 := St.start w r an
  generalize (w.alloc (.cells #[.string r, .bool an] 83)) = W0 at S0 ⊢
  have c1 := (h.below S0.bel).cell
  have hC := World.block_lt_of_cell? W0 _ c1
  have b0 := S0.b0
  have b1 := S0.b1
  have hlt := S0.lt
  have la := (h.below S0.drew.bel).look (a := v) (b := g) an hv hg hr
  have lb := (h.below (S0.alloc (.cells #[.bool false, .map none] 92)).drew.bel).look (a := v) (b := g) an hv hg hr
  have ln := fun W (hW : Below w.heap.size w W) => (h.below hW).name (hit rv rg rr ra v g r an) hn
  have o1 : one rv rg rr ra ss v g r an nm false = ((hit rv rg rr ra v g r an && ss.isEmpty) || false && (hit rv rg rr ra v g r an && (!ss.isEmpty) && mem nm ss)) := rfl
  generalize (hit rv rg rr ra v g r an && ss.isEmpty) = t0 at la lb o1
  generalize (hit rv rg rr ra v g r an && (!ss.isEmpty) && mem nm ss) = t2 at ln o1
  generalize (if hit rv rg rr ra v g r an = true then M else none) = M0 at la lb ln
  have O0 : Hid (one rv rg rr ra ss v g r an nm false = (t0 || false && t2)) := o1
  have LN : Hid (∀ W, Below w.heap.size w W → (Instr.lookup 90 (.map M0) (.string nm) false).run Try.prog W = .ok (.bool t2) W) := ln
  clear o1 ln
  go_cut [17] from 28 to 36 (fun p wx => p = .pointer (some ⟨W0.heap.size, 0, none⟩) ∧ (Hid ((W0.alloc (.cells #[.bool t0, .map M0] 92)).drew = wx)))
  case first =>
    go_region
    all_goals (go_wp2_with fail; go_meet; case rel => exact ⟨rfl, rfl⟩)
  case rest =>
  obtain ⟨rfl, HW⟩ := hcut
  obtain rfl := HW.out
  clear HW
  have T0 := (S0.alloc (.cells #[.bool t0, .map M0] 92)).drew
  have lw := LN.out _ T0.bel
  clear la lb LN
  cases t0 with
  | true =>
    go_wp2
    go_ret
    refine ⟨?_, T0.bel⟩
    rw [cov_ones]
    have := O0.out
    simp at this
    simp [this]
  | false =>
  go_wp2
  rw [rounds_succ]
  go_upto_region 7 with fail
  have S1 := T0
  generalize (W0.alloc (.cells #[.bool false, .map M0] 92)).drew = W1 at S1 T0 ⊢
  clear T0 lw c1 hC b0 b1 hlt
  have c1 := (h.below S1.bel).cell
  have hC := World.block_lt_of_cell? W1 _ c1
  have b0 := S1.b0
  have b1 := S1.b1
  have hlt := S1.lt
  have la := (h.below S1.drew.bel).look (a := v) (b := star) an hv hs hr
  have lb := (h.below (S1.alloc (.cells #[.bool false, .map none] 92)).drew.bel).look (a := v) (b := star) an hv hs hr
  have ln := fun W (hW : Below w.heap.size w W) => (h.below hW).name (hit rv rg rr ra v star r an) hn
  have o1 : one rv rg rr ra ss v star r an nm false = ((hit rv rg rr ra v star r an && ss.isEmpty) || false && (hit rv rg rr ra v star r an && (!ss.isEmpty) && mem nm ss)) := rfl
  generalize (hit rv rg rr ra v star r an && ss.isEmpty) = t0 at la lb o1
  generalize (hit rv rg rr ra v star r an && (!ss.isEmpty) && mem nm ss) = t2 at ln o1
  generalize (if hit rv rg rr ra v star r an = true then M else none) = M1 at la lb ln
  have O1 : Hid (one rv rg rr ra ss v star r an nm false = (t0 || false && t2)) := o1
  have LN : Hid (∀ W, Below w.heap.size w W → (Instr.lookup 90 (.map M1) (.string nm) false).run Try.prog W = .ok (.bool t2) W) := ln
  clear o1 ln
  unfold star at la lb
  go_cut [17] from 28 to 36 (fun p wx => p = .pointer (some ⟨W1.heap.size, 0, none⟩) ∧ (Hid ((W1.alloc (.cells #[.bool t0, .map M1] 92)).drew = wx)))
  case first =>
    go_region
    all_goals (go_wp2_with fail; go_meet; case rel => exact ⟨rfl, rfl⟩)
  case rest =>
  obtain ⟨rfl, HW⟩ := hcut
  obtain rfl := HW.out
  clear HW
  have T1 := (S1.alloc (.cells #[.bool t0, .map M1] 92)).drew
  have lw := LN.out _ T1.bel
  clear la lb LN
  cases t0 with
  | true =>
    go_wp2
    go_ret
    refine ⟨?_, T1.bel⟩
    rw [cov_ones]
    have := O1.out
    simp at this
    simp [this]
  | false =>
  go_wp2
  rw [rounds_succ]
  go_wp2
  rw [rounds_succ]
  go_wp2
  refine wp_loop_rounds 3 ?_
  rw [rounds_succ]
  go_upto_region 7 with fail
  have S2 := T1
  generalize (W1.alloc (.cells #[.bool false, .map M1] 92)).drew = W2 at S2 T1 ⊢
  clear T1 lw c1 hC b0 b1 hlt
  have c1 := (h.below S2.bel).cell
  have hC := World.block_lt_of_cell? W2 _ c1
  have b0 := S2.b0
  have b1 := S2.b1
  have hlt := S2.lt
  have la := (h.below S2.drew.bel).look (a := star) (b := g) an hs hg hr
  have lb := (h.below (S2.alloc (.cells #[.bool false, .map none] 92)).drew.bel).look (a := star) (b := g) an hs hg hr
  have ln := fun W (hW : Below w.heap.size w W) => (h.below hW).name (hit rv rg rr ra star g r an) hn
  have o1 : one rv rg rr ra ss star g r an nm false = ((hit rv rg rr ra star g r an && ss.isEmpty) || false && (hit rv rg rr ra star g r an && (!ss.isEmpty) && mem nm ss)) := rfl
  generalize (hit rv rg rr ra star g r an && ss.isEmpty) = t0 at la lb o1
  generalize (hit rv rg rr ra star g r an && (!ss.isEmpty) && mem nm ss) = t2 at ln o1
  generalize (if hit rv rg rr ra star g r an = true then M else none) = M2 at la lb ln
  have O2 : Hid (one rv rg rr ra ss star g r an nm false = (t0 || false && t2)) := o1
  have LN : Hid (∀ W, Below w.heap.size w W → (Instr.lookup 90 (.map M2) (.string nm) false).run Try.prog W = .ok (.bool t2) W) := ln
  clear o1 ln
  unfold star at la lb
  go_cut [17] from 28 to 36 (fun p wx => p = .pointer (some ⟨W2.heap.size, 0, none⟩) ∧ (Hid ((W2.alloc (.cells #[.bool t0, .map M2] 92)).drew = wx)))
  case first =>
    go_region
    all_goals (go_wp2_with fail; go_meet; case rel => exact ⟨rfl, rfl⟩)
  case rest =>
  obtain ⟨rfl, HW⟩ := hcut
  obtain rfl := HW.out
  clear HW
  have T2 := (S2.alloc (.cells #[.bool t0, .map M2] 92)).drew
  have lw := LN.out _ T2.bel
  clear la lb LN
  cases t0 with
  | true =>
    go_wp2
    go_ret
    refine ⟨?_, T2.bel⟩
    rw [cov_ones]
    have := O2.out
    simp at this
    simp [this]
  | false =>
  go_wp2
  rw [rounds_succ]
  go_upto_region 7 with fail
  have S3 := T2
  generalize (W2.alloc (.cells #[.bool false, .map M2] 92)).drew = W3 at S3 T2 ⊢
  clear T2 lw c1 hC b0 b1 hlt
  have c1 := (h.below S3.bel).cell
  have hC := World.block_lt_of_cell? W3 _ c1
  have b0 := S3.b0
  have b1 := S3.b1
  have hlt := S3.lt
  have la := (h.below S3.drew.bel).look (a := star) (b := star) an hs hs hr
  have lb := (h.below (S3.alloc (.cells #[.bool false, .map none] 92)).drew.bel).look (a := star) (b := star) an hs hs hr
  have ln := fun W (hW : Below w.heap.size w W) => (h.below hW).name (hit rv rg rr ra star star r an) hn
  have o1 : one rv rg rr ra ss star star r an nm false = ((hit rv rg rr ra star star r an && ss.isEmpty) || false && (hit rv rg rr ra star star r an && (!ss.isEmpty) && mem nm ss)) := rfl
  generalize (hit rv rg rr ra star star r an && ss.isEmpty) = t0 at la lb o1
  generalize (hit rv rg rr ra star star r an && (!ss.isEmpty) && mem nm ss) = t2 at ln o1
  generalize (if hit rv rg rr ra star star r an = true then M else none) = M3 at la lb ln
  have O3 : Hid (one rv rg rr ra ss star star r an nm false = (t0 || false && t2)) := o1
  have LN : Hid (∀ W, Below w.heap.size w W → (Instr.lookup 90 (.map M3) (.string nm) false).run Try.prog W = .ok (.bool t2) W) := ln
  clear o1 ln
  unfold star at la lb
  go_cut [17] from 28 to 36 (fun p wx => p = .pointer (some ⟨W3.heap.size, 0, none⟩) ∧ (Hid ((W3.alloc (.cells #[.bool t0, .map M3] 92)).drew = wx)))
  case first =>
    go_region
    all_goals (go_wp2_with fail; go_meet; case rel => exact ⟨rfl, rfl⟩)
  case rest =>
  obtain ⟨rfl, HW⟩ := hcut
  obtain rfl := HW.out
  clear HW
  have T3 := (S3.alloc (.cells #[.bool t0, .map M3] 92)).drew
  have lw := LN.out _ T3.bel
  clear la lb LN
  cases t0 with
  | true =>
    go_wp2
    go_ret
    refine ⟨?_, T3.bel⟩
    rw [cov_ones]
    have := O3.out
    simp at this
    simp [this]
  | false =>
  go_wp2
  rw [rounds_succ]
  go_wp2
  rw [rounds_succ]
  go_wp2
  go_ret
  refine ⟨?_, T3.bel⟩
  rw [cov_ones]
  have e0 := O0.out
  have e1 := O1.out
  have e2 := O2.out
  have e3 := O3.out
  simp at e0 e1 e2 e3
  simp [e0, e1, e2, e3]

theorem covers_any {C A : Nat} {M : Option Nat} {rv rg rr : ByteArray} {ra : Bool} {ss : List ByteArray} {w : World} (h : CovAt C A M rv rg rr ra ss w) (v g r : ByteArray) (an : Bool) (nm : ByteArray) (nd : Bool)
    (hv : v.size ≤ maxLen) (hg : g.size ≤ maxLen) (hr : r.size ≤ maxLen) (hn : nm.size ≤ maxLen) :
    Calls Try.prog 49 #[.pointer (some ⟨C, 0, none⟩), .string v, .string g, .agg #[.string r, .bool an], .string nm, .bool nd] w fun e w' =>
      e = .returned (.bool (covB rv rg rr ra ss v g r an nm nd)) ∧ Below w.heap.size w w' := by
  cases nd with
  | true => exact covers_t h v g r an nm hv hg hr hn
  | false => exact covers_f h v g r an nm hv hg hr hn
end Go.Proofs.Qxb6606073a.W
