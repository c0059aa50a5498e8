import Derived.Test.Qxb6606073aRr
namespace Go.Proofs.Qxb6606073a.W
open Go.RowKit
set_option linter.unusedVariables false
set_option linter.unusedSimpArgs false

theorem two_heap0 (w : World) (A B : Obj) (q : Nat) : (((w.alloc A).alloc B).drewN q).heap[w.heap.size]? = some A := by
  show (((w.heap.push A).push B))[w.heap.size]? = _
  rw [Array.getElem?_push, if_neg (by simp)]
  simp
theorem two_heap1 (w : World) (A B : Obj) (q : Nat) : (((w.alloc A).alloc B).drewN q).heap[w.heap.size + 1]? = some B := by
  show (((w.heap.push A).push B))[w.heap.size + 1]? = _
  rw [Array.getElem?_push, if_pos (by simp)]

theorem BoxAt.start (w : World) (c0 c1 c2 c3 c4 : Value) (an : Bool) (B : Obj) (q : Nat) : BoxAt w.heap.size c0 c1 c2 c3 c4 an w (((w.alloc (.cells #[c0, c1, c2, c3, c4, .bool an] 25)).alloc B).drewN q) := by
  have e := two_heap0 w (.cells #[c0, c1, c2, c3, c4, .bool an] 25) B q
  have b1 : Below w.heap.size w ((w.alloc (.cells #[c0, c1, c2, c3, c4, .bool an] 25)).alloc B) := ((Below.refl _ _).alloc (Nat.le_refl _) _).alloc (by simp) _
  exact ⟨b1.trans (below_drew _ _ _), heap_cell e 0, heap_cell e 1, heap_cell e 2, heap_cell e 3, heap_cell e 4, heap_cell e 5⟩

theorem BoxAt.set {h : Nat} {c0 c1 c2 c3 c4 : Value} {an : Bool} {w w1 : World} (k : BoxAt h c0 c1 c2 c3 c4 an w w1) (i : Nat) (v : Value) : BoxAt h c0 c1 c2 c3 c4 an w (w1.setCell ⟨h + 1, i, none⟩ v) := by
  have e : (w1.setCell ⟨h + 1, i, none⟩ v).heap[h]? = w1.heap[h]? := Below.heap_setCell _ _ _ _ (by simp)
  have f : ∀ j, (w1.setCell ⟨h + 1, i, none⟩ v).cell? ⟨h, j, none⟩ = w1.cell? ⟨h, j, none⟩ := fun j => World.cell?_of_block (w := w1) e
  obtain ⟨a, b0, b1, b2, b3, b4, b5⟩ := k
  exact ⟨a.setCell (by simp) _, (f 0).trans b0, (f 1).trans b1, (f 2).trans b2, (f 3).trans b3, (f 4).trans b4, (f 5).trans b5⟩

def ZC : Array Value := #[.slice none 0 0, .slice none 0 0, .slice none 0 0, .slice none 0 0, .slice none 0 0, .bool false]

set_option maxRecDepth 100000 in
set_option maxHeartbeats 400000 in
theorem cloneRule_any {e : El} {d : Rd} {w : World} (h : RuleV e d w) (hok : Ok d) :
    Calls Try.prog 12 #[.agg #[e.c0, e.c1, e.c2, e.c3, e.c4, .bool e.an]] w fun en w' => ∃ e' : El, en = .returned (.agg #[e'.c0, e'.c1, e'.c2, e'.c3, e'.c4, .bool e'.an]) ∧ OwnE e' d w' ∧ Below w.heap.size w w' := by
  obtain ⟨c0, c1, c2, c3, c4, an⟩ := e
  have H0 : Hid (StrsAt c0 d.v w ∧ StrsAt c1 d.g w ∧ StrsAt c2 d.r w ∧ StrsAt c3 d.n w ∧ StrsAt c4 d.b w ∧ an = d.an) := ⟨h.s0, h.s1, h.s2, h.s3, h.s4, h.an⟩
  have HK : Hid (Ok d) := hok
  clear h hok
  have S0 := fun B q => BoxAt.start w c0 c1 c2 c3 c4 an B q
  have HS0 : Hid (∀ B q, BoxAt w.heap.size c0 c1 c2 c3 c4 an w (((w.alloc (.cells #[c0, c1, c2, c3, c4, .bool an] 25)).alloc B).drewN q)) := S0
  clear S0
  go_enter Try.func12, Try.ntmps12
  go_wp2_with fail
  go_region_held3 (fun w' => Below w.heap.size w w' ∧ w'.cell? ⟨w.heap.size, 0, none⟩ = some c0 ∧ w'.cell? ⟨w.heap.size, 1, none⟩ = some c1 ∧ w'.cell? ⟨w.heap.size, 2, none⟩ = some c2 ∧ w'.cell? ⟨w.heap.size, 3, none⟩ = some c3 ∧ w'.cell? ⟨w.heap.size, 4, none⟩ = some c4 ∧ w'.cell? ⟨w.heap.size, 5, none⟩ = some (.bool an))
    (first | with_reducible exact (((((BoxAt.set (by assumption) 0 _).set 1 _).set 2 _).set 3 _).set 4 _).set 5 _ | with_reducible exact BoxAt.below (by assumption) (by assumption) | exact HS0.out _ 1)
    (first
      | (go_at_call_of 37 c0; refine (cloneS_any (ss := d.v) (W.StrsAt.below H0.out.1 (And.left ‹Below w.heap.size w _ ∧ _›)) HK.out.v.1).mono ?_; rintro en w1 ⟨a0, i0, k0, rfl, g0, b0⟩; have z1 : Hid (w1.heap[w.heap.size + 1]? = some (.cells ZC 25 (0, 0))) := Keep.of (T := 0) b0 _ _ 25 _ (by decide) (two_heap1 w _ _ 1))
      | (go_at_call_of 37 c1; refine (cloneS_any (ss := d.g) (W.StrsAt.below H0.out.2.1 (And.left ‹Below w.heap.size w _ ∧ _›)) HK.out.g.1).mono ?_; rintro en w2 ⟨a1, i1, k1, rfl, g1, b1⟩; have z2 : Hid (w2.heap[w.heap.size + 1]? = some (.cells ZC 25 (0, 0))) := Keep.of (T := 0) b1 _ _ 25 _ (by decide) z1.out)
      | (go_at_call_of 37 c2; refine (cloneS_any (ss := d.r) (W.StrsAt.below H0.out.2.2.1 (And.left ‹Below w.heap.size w _ ∧ _›)) HK.out.r.1).mono ?_; rintro en w3 ⟨a2, i2, k2, rfl, g2, b2⟩; have z3 : Hid (w3.heap[w.heap.size + 1]? = some (.cells ZC 25 (0, 0))) := Keep.of (T := 0) b2 _ _ 25 _ (by decide) z2.out)
      | (go_at_call_of 37 c3; refine (cloneS_any (ss := d.n) (W.StrsAt.below H0.out.2.2.2.1 (And.left ‹Below w.heap.size w _ ∧ _›)) HK.out.n.1).mono ?_; rintro en w4 ⟨a3, i3, k3, rfl, g3, b3⟩; have z4 : Hid (w4.heap[w.heap.size + 1]? = some (.cells ZC 25 (0, 0))) := Keep.of (T := 0) b3 _ _ 25 _ (by decide) z3.out)
      | (go_at_call_of 37 c4; refine (cloneS_any (ss := d.b) (W.StrsAt.below H0.out.2.2.2.2.1 (And.left ‹Below w.heap.size w _ ∧ _›)) HK.out.b.1).mono ?_; rintro en w5 ⟨a4, i4, k4, rfl, g4, b4⟩; have z5 : Hid (w5.heap[w.heap.size + 1]? = some (.cells ZC 25 (0, 0))) := Keep.of (T := 0) b4 _ _ 25 _ (by decide) z4.out; have y0 : w5.cell? ⟨w.heap.size + 1, 0, none⟩ = some (.slice none 0 0) := heap_cell z5.out 0; have y1 : w5.cell? ⟨w.heap.size + 1, 1, none⟩ = some (.slice none 0 0) := heap_cell z5.out 1; have y2 : w5.cell? ⟨w.heap.size + 1, 2, none⟩ = some (.slice none 0 0) := heap_cell z5.out 2; have y3 : w5.cell? ⟨w.heap.size + 1, 3, none⟩ = some (.slice none 0 0) := heap_cell z5.out 3; have y4 : w5.cell? ⟨w.heap.size + 1, 4, none⟩ = some (.slice none 0 0) := heap_cell z5.out 4; have y5 : w5.cell? ⟨w.heap.size + 1, 5, none⟩ = some (.bool false) := heap_cell z5.out 5; have yf := fun i => heap_frozen z5.out i; have y10 := yf 0; have y11 := yf 1; have y12 := yf 2; have y13 := yf 3; have y14 := yf 4; have y15 := yf 5; clear yf; have B4 : Hid (Below w.heap.size w w4) := And.left ‹Below w.heap.size w w4 ∧ _›))
  go_wp2
  have hz := z5.out
  have B5 := B4.out.trans (b4.mono B4.out.size)
  have HZ5 : (ZC : Array Value).size = 6 := rfl
  clear y0 y1 y2 y3 y4 y5 y10 y11 y12 y13 y14 y15 B4
  obtain ⟨cur, q1, q2, -, q4⟩ := set6_heap hz ⟨.slice a0 i0 k0, .slice a1 i1 k1, .slice a2 i2 k2, .slice a3 i3 k3, .slice a4 i4 k4, an⟩ (o := 0) (by rw [HZ5]; omega)
  have hcur : cur = #[.slice a0 i0 k0, .slice a1 i1 k1, .slice a2 i2 k2, .slice a3 i3 k3, .slice a4 i4 k4, .bool an] := by
    have q2 : cur.size = 6 := q2
    apply Array.ext_getElem?
    intro i
    match i with
    | 0 => exact q4 0 _ rfl
    | 1 => exact q4 1 _ rfl
    | 2 => exact q4 2 _ rfl
    | 3 => exact q4 3 _ rfl
    | 4 => exact q4 4 _ rfl
    | 5 => exact q4 5 _ rfl
    | i + 6 => rw [Array.getElem?_eq_none (by omega), Array.getElem?_eq_none (by simp)]
  subst hcur
  have hk := set6_keep (o := 0) hz ⟨.slice a0 i0 k0, .slice a1 i1 k1, .slice a2 i2 k2, .slice a3 i3 k3, .slice a4 i4 k4, an⟩
  have hbl := set6_below (o := 0) B5 (Nat.le_succ _) ⟨.slice a0 i0 k0, .slice a1 i1 k1, .slice a2 i2 k2, .slice a3 i3 k3, .slice a4 i4 k4, an⟩
  have hg : OwnE ⟨.slice a0 i0 k0, .slice a1 i1 k1, .slice a2 i2 k2, .slice a3 i3 k3, .slice a4 i4 k4, an⟩ d (set6 w5 (w.heap.size + 1) 0 ⟨.slice a0 i0 k0, .slice a1 i1 k1, .slice a2 i2 k2, .slice a3 i3 k3, .slice a4 i4 k4, an⟩) :=
    ⟨((((g0.below b1).below b2).below b3).below b4).keep hk (by decide), (((g1.below b2).below b3).below b4).keep hk (by decide), ((g2.below b3).below b4).keep hk (by decide), (g3.below b4).keep hk (by decide), g4.keep hk (by decide), H0.out.2.2.2.2.2⟩
  clear hk g0 g1 g2 g3 g4 b0 b1 b2 b3 b4 z1 z2 z3 z4 z5 hz B5 HS0 H0 HK
  change bodyPost Try.prog Try.f12 _ _ _ (set6 w5 (w.heap.size + 1) 0 ⟨.slice a0 i0 k0, .slice a1 i1 k1, .slice a2 i2 k2, .slice a3 i3 k3, .slice a4 i4 k4, an⟩)
  generalize set6 w5 (w.heap.size + 1) 0 ⟨.slice a0 i0 k0, .slice a1 i1 k1, .slice a2 i2 k2, .slice a3 i3 k3, .slice a4 i4 k4, an⟩ = W at *
  refine bodyPost_ret (results_cell_row rfl _ _ (w.heap.size + 1) 25 #[.slice a0 i0 k0, .slice a1 i1 k1, .slice a2 i2 k2, .slice a3 i3 k3, .slice a4 i4 k4, .bool an] (0, 0) _ rfl q1 Try.underlying25 rfl (by kernel_rfl)) rfl ?_
  exact ⟨⟨.slice a0 i0 k0, .slice a1 i1 k1, .slice a2 i2 k2, .slice a3 i3 k3, .slice a4 i4 k4, an⟩, rfl, hg, hbl⟩
end Go.Proofs.Qxb6606073a.W
