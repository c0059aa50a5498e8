import Derived.Test.Qxb6606073aRw
namespace Go.Proofs.Qxb6606073a.W
open Go.RowKit
set_option linter.unusedVariables false
set_option linter.unusedSimpArgs false

def Zz3 : Prop := ∀ (rs : Value) (ds : List Rd) (e : El) (d : Rd) (w : World), RulesAt rs ds w → RuleV e d w →
  Calls Try.prog 7 #[rs, .agg #[e.c0, e.c1, e.c2, e.c3, e.c4, .bool e.an]] w fun en w' => ∃ b : Bool, en = .returned (.bool b) ∧ Below w.heap.size w w'

def Good (w : World) (en : Ending) (w' : World) : Prop := en = .returned (.bool true) ∧ Below w.heap.size w w'

/-- In the law: the box at h holds the rule. -/
structure Bx (w0 : World) (h : Nat) (e : El) (w : World) : Prop where
  bel : Below w0.heap.size w0 w
  box : w.heap[h]? = some (.cells #[e.c0, e.c1, e.c2, e.c3, e.c4, .bool e.an] 25 (0, 0))

theorem Bx.below {w0 : World} {h : Nat} {e : El} {w w' : World} (x : Bx w0 h e w) (hb : Below w.heap.size w w') : Bx w0 h e w' :=
  ⟨x.bel.trans (hb.mono x.bel.size), heap_below x.box hb⟩

theorem Bx.cells {w0 : World} {h : Nat} {c0 c1 c2 c3 c4 : Value} {an : Bool} {w : World} (x : Bx w0 h ⟨c0, c1, c2, c3, c4, an⟩ w) :
    w.cell? ⟨h, 0, none⟩ = some c0 ∧ w.cell? ⟨h, 1, none⟩ = some c1 ∧ w.cell? ⟨h, 2, none⟩ = some c2 ∧ w.cell? ⟨h, 3, none⟩ = some c3 ∧ w.cell? ⟨h, 4, none⟩ = some c4 ∧ w.cell? ⟨h, 5, none⟩ = some (.bool an) :=
  ⟨heap_cell x.box 0, heap_cell x.box 1, heap_cell x.box 2, heap_cell x.box 3, heap_cell x.box 4, heap_cell x.box 5⟩

theorem Bx.boxAt {w0 : World} {c0 c1 c2 c3 c4 : Value} {an : Bool} {w : World} (x : Bx w0 w0.heap.size ⟨c0, c1, c2, c3, c4, an⟩ w) : BoxAt w0.heap.size c0 c1 c2 c3 c4 an w0 w := ⟨x.bel, x.cells⟩

theorem Bx.start (w : World) (e : El) : Bx w w.heap.size e (w.alloc (.cells #[e.c0, e.c1, e.c2, e.c3, e.c4, .bool e.an] 25)) := ⟨below_alloc _ _, heap_alloc_at _ _⟩

theorem Bx.set {w0 : World} {e e' : El} {w : World} (x : Bx w0 w0.heap.size e w) : Bx w0 w0.heap.size e' (set6 w w0.heap.size 0 e') := by
  obtain ⟨cur, q1, q2, -, q4⟩ := set6_heap x.box e' (o := 0) (by simp)
  refine ⟨set6_below (o := 0) x.bel (Nat.le_refl _) _, ?_⟩
  have hcur : cur = #[e'.c0, e'.c1, e'.c2, e'.c3, e'.c4, .bool e'.an] := by
    have q2 : cur.size = 6 := q2
    apply Array.ext_getElem?
    intro i
    match i with
    | 0 => exact q4 0 _ rfl
    | 1 => exact q4 1 _ rfl
    | 2 => exact q4 2 _ rfl
    | 3 => exact q4 3 _ rfl
    | 4 => exact q4 4 _ rfl
    | 5 => exact q4 5 _ rfl
    | i + 6 => rw [Array.getElem?_eq_none (by omega), Array.getElem?_eq_none (by simp)]
  rw [q1, hcur]

theorem RowsO.set6 {rs : Value} {es : List El} {w : World} (hR : RowsO rs es w) {h : Nat} (hne : ∀ a l c, rs = .slice (some a) l c → a.block ≠ h) (o : Nat) (e : El) : RowsO rs es (set6 w h o e) := by
  rcases hR with hR | ⟨g, h1, h2⟩
  · exact .inl hR
  · refine .inr ⟨g, h1, ?_⟩
    obtain ⟨cur, q1, q2⟩ := h2
    exact ⟨cur, (set6_other _ _ _ _ _ (hne _ _ _ h1)).trans q1, q2⟩

/-- What the law's loop stands on. -/
structure Lp (w0 : World) (d : Rd) (e : El) (es ts : List El) (rs out : Value) (w : World) : Prop where
  bx : Bx w0 w0.heap.size e w
  own : OwnE e d w
  rows : UniRow rs es w
  uni : UniRow out (es ++ ts) w
  hist : ∀ (p : Nat) x, ts[p]? = some x → TripOk d e x p w

theorem UniRow.below {v : Value} {es : List El} {w w' : World} (h : UniRow v es w) (hb : Below w.heap.size w w') : UniRow v es w' := by
  obtain ⟨ao, cap, h1, h2⟩ := h
  refine ⟨ao, cap, h1, fun i e he => ?_⟩
  obtain ⟨g, e1, e2⟩ := h2 i e he
  exact ⟨g, e1, rangeAt_below e2 hb⟩

theorem Lp.below {w0 : World} {d : Rd} {e : El} {es ts : List El} {rs out : Value} {w w' : World} (l : Lp w0 d e es ts rs out w) (hb : Below w.heap.size w w') : Lp w0 d e es ts rs out w' :=
  ⟨l.bx.below hb, l.own.keep (Keep.of (T := 0) hb) (by decide), l.rows.below hb, l.uni.below hb, fun p x hx => (l.hist p x hx).keep (Keep.of hb)⟩

theorem Lp.elem {w0 : World} {d : Rd} {e : El} {es ts : List El} {rs : Value} {oo : Option Addr} {l oc : Nat} {w : World} (L : Lp w0 d e es ts rs (.slice oo l oc) w) {k : Nat} {x : El} (hx : ts[k]? = some x) : ∃ g, oo = some ⟨g, 0, none⟩ ∧ w.rangeAt g ((es.length + k) * 6) x.cells := by
  obtain ⟨ao, cap, e1, h⟩ := L.uni
  cases e1
  refine h (es.length + k) x ?_
  rw [List.getElem?_append_right (by omega)]
  simpa using hx

set_option maxRecDepth 100000 in
set_option maxHeartbeats 4000000 in
theorem main_any (hzz : Zz3) {rs : Value} {ds : List Rd} {e : El} {d : Rd} {w : World} (h : RulesAt rs ds w) (hr : RuleV e d w) :
    Calls Try.prog 3 #[rs, .agg #[e.c0, e.c1, e.c2, e.c3, e.c4, .bool e.an]] w fun en w' => Good w en w' := by
  have HZ : Hid Zz3 := hzz
  have X0 := Bx.start w e
  obtain ⟨c0, c1, c2, c3, c4, an⟩ := e
  have HR : Hid (∀ w', Below w.heap.size w w' → RulesAt rs ds w') := fun w' hb => h.below hb
  have HV : Hid (∀ w', Below w.heap.size w w' → RuleV ⟨c0, c1, c2, c3, c4, an⟩ d w') := fun w' hb => hr.below hb
  obtain ⟨ra, rcap, hrs, -⟩ := h
  obtain ⟨nR0, hnR0⟩ : ∃ n, ds.length = n := ⟨_, rfl⟩
  rw [hnR0] at hrs
  subst hrs
  clear hr hzz hnR0
  obtain ⟨b0, b1, b2, b3, b4, b5⟩ := X0.cells
  go_enter Try.func3, Try.ntmps3
  go_wp2_with fail
  go_at_call 7
  refine (HZ.out _ ds ⟨c0, c1, c2, c3, c4, an⟩ d _ (HR.out _ X0.bel) (HV.out _ X0.bel)).mono ?_
  rintro en w1 ⟨b, rfl, hb1⟩
  have X1 := X0.below hb1
  clear b0 b1 b2 b3 b4 b5 X0 hb1
  obtain ⟨b0, b1, b2, b3, b4, b5⟩ := X1.cells
  cases b with
  | false =>
    go_wp2
    go_ret
    exact ⟨rfl, X1.bel⟩
  | true =>
  have X1d : Hid (Bx w w.heap.size ⟨c0, c1, c2, c3, c4, an⟩ w1.drew) := X1.below (below_drew _ _ 1)
  have X1b : Hid (BoxAt w.heap.size c0 c1 c2 c3 c4 an w w1.drew) := X1d.out.boxAt
  obtain ⟨z0, z1, z2⟩ := rb_le d
  have HZ2 : Hid (rb d ≤ 1048576 → Ok d) := z2
  clear z2 X1
  go_wp2_with fail
  go_region_held3 (fun w' => Below w.heap.size w w' ∧ w'.cell? ⟨w.heap.size, 0, none⟩ = some c0 ∧ w'.cell? ⟨w.heap.size, 1, none⟩ = some c1 ∧ w'.cell? ⟨w.heap.size, 2, none⟩ = some c2 ∧ w'.cell? ⟨w.heap.size, 3, none⟩ = some c3 ∧ w'.cell? ⟨w.heap.size, 4, none⟩ = some c4 ∧ w'.cell? ⟨w.heap.size, 5, none⟩ = some (.bool an))
    (first | with_reducible exact BoxAt.below (by assumption) (by assumption) | exact X1b.out)
    (first
      | (go_at_call 8; refine (rulesBytes_any (HR.out _ (And.left ‹Below w.heap.size w _ ∧ _›))).mono ?_; rintro en w2 ⟨r1, rfl, hb2, r10, r11, r12⟩; have R12 : Hid (r1 ≤ 1048576 → ds.length ≤ 8192 ∧ ∀ (i : Nat) d, ds[i]? = some d → Ok d) := r12; clear r12; have X2 : Hid (Bx w w.heap.size ⟨c0, c1, c2, c3, c4, an⟩ w2) := X1d.out.below hb2)
      | (go_at_call 9; refine (ruleBytes_any (HV.out _ (And.left ‹Below w.heap.size w _ ∧ _›))).mono ?_; rintro en w3 ⟨rfl, hb3⟩; have X3 : Hid (Bx w w.heap.size ⟨c0, c1, c2, c3, c4, an⟩ w3) := X2.out.below hb3; have hwr : IntKind.i64.wrap (r1 + rb d) = r1 + rb d := wrapS (by omega) (by omega)))
  clear b0 b1 b2 b3 b4 b5
  obtain ⟨b0, b1, b2, b3, b4, b5⟩ := X3.out.cells
  by_cases hle : r1 + rb d ≤ 1048576
  case neg =>
    go_wp2
    go_ret
    exact ⟨rfl, X3.out.bel⟩
  have hOk := HZ2.out (by omega)
  obtain ⟨hl0, hOks⟩ := R12.out (by omega)
  have R10 := noScope_any (HV.out _ X3.out.bel) hOk
  have HO : Hid (Ok d) := hOk
  have HOS : Hid (∀ (i : Nat) d, ds[i]? = some d → Ok d) := hOks
  have HL0 : Hid (ds.length ≤ 8192) := hl0
  clear hOk hOks hl0
  go_wp2_with fail
  go_at_call 10
  refine R10.mono ?_
  rintro en w4 ⟨r3, rfl, hb4, hr3⟩
  have X4 := X3.out.below hb4
  clear b0 b1 b2 b3 b4 b5 R10
  obtain ⟨b0, b1, b2, b3, b4, b5⟩ := X4.cells
  by_cases hle3 : r3 ≤ 67108864
  case neg =>
    clear hr3
    go_wp2
    go_ret
    exact ⟨rfl, X4.bel⟩
  have HT : Hid (trip d ≤ 67108864) := hr3 hle3
  clear hr3
  have R11 := cloneRules_any (HR.out _ X4.bel) HL0.out HOS.out
  go_wp2_with fail
  go_at_call 11
  refine R11.mono ?_
  rintro en w5 ⟨rs', es, rfl, hb5, hRO, hOE, hge⟩
  have X5 := X4.below hb5
  clear b0 b1 b2 b3 b4 b5 R11
  obtain ⟨b0, b1, b2, b3, b4, b5⟩ := X5.cells
  have R12' := cloneRule_any (HV.out _ X5.bel) HO.out
  have HRO : Hid (RowsO rs' es w5) := hRO
  have HOE : Hid (OwnEs es ds w5) := hOE
  have HGE : Hid (∀ a l c, rs' = .slice (some a) l c → w4.heap.size ≤ a.block) := hge
  clear hRO hOE hge
  go_wp2_with fail
  go_at_call 12
  refine R12'.mono ?_
  rintro en w6 ⟨e', rfl, hE6, hb6⟩
  have X6 := X5.below hb6
  clear b0 b1 b2 b3 b4 b5 R12'
  obtain ⟨b0, b1, b2, b3, b4, b5⟩ := X6.cells
  have f0 := heap_frozen X6.box 0
  have f1 := heap_frozen X6.box 1
  have f2 := heap_frozen X6.box 2
  have f3 := heap_frozen X6.box 3
  have f4 := heap_frozen X6.box 4
  have f5 := heap_frozen X6.box 5
  obtain ⟨d0, d1, d2, d3, d4, an'⟩ := e'
  obtain ⟨a0, k0, x0⟩ := StrsAt.len hE6.s0.str
  obtain ⟨a1, k1, x1⟩ := StrsAt.len hE6.s1.str
  obtain ⟨a2, k2, x2⟩ := StrsAt.len hE6.s2.str
  obtain ⟨a3, k3, x3⟩ := StrsAt.len hE6.s3.str
  obtain ⟨a4, k4, x4⟩ := StrsAt.len hE6.s4.str
  simp only at x0 x1 x2 x3 x4
  obtain ⟨V, hV⟩ : ∃ n, d.v.length = n := ⟨_, rfl⟩
  obtain ⟨G, hG⟩ : ∃ n, d.g.length = n := ⟨_, rfl⟩
  obtain ⟨R, hR⟩ : ∃ n, d.r.length = n := ⟨_, rfl⟩
  obtain ⟨N, hN⟩ : ∃ n, d.n.length = n := ⟨_, rfl⟩
  obtain ⟨N4, hN4⟩ : ∃ n, d.b.length = n := ⟨_, rfl⟩
  rw [hV] at x0
  rw [hG] at x1
  rw [hR] at x2
  rw [hN] at x3
  rw [hN4] at x4
  subst x0 x1 x2 x3 x4
  have HVv : Hid (d.v.length = V) := hV
  have HGg : Hid (d.g.length = G) := hG
  have HRr : Hid (d.r.length = R) := hR
  have HNn : Hid (d.n.length = N) := hN
  have y0 : V ≤ 65536 := by rw [← hV]; exact HO.out.v.1
  have y1 : G ≤ 65536 := by rw [← hG]; exact HO.out.g.1
  have y2 : R ≤ 65536 := by rw [← hR]; exact HO.out.r.1
  have y3 : N ≤ 65536 := by rw [← hN]; exact HO.out.n.1
  clear hV hG hR hN hN4
  have hlt4 : w.heap.size < w4.heap.size := (Array.getElem?_eq_some_iff.1 X4.box).1
  have X7 : Bx w w.heap.size ⟨.slice a0 V k0, .slice a1 G k1, .slice a2 R k2, .slice a3 N k3, .slice a4 N4 k4, an'⟩ (set6 w6 w.heap.size 0 ⟨.slice a0 V k0, .slice a1 G k1, .slice a2 R k2, .slice a3 N k3, .slice a4 N4 k4, an'⟩) := X6.set
  have K7 := set6_keep (o := 0) X6.box ⟨.slice a0 V k0, .slice a1 G k1, .slice a2 R k2, .slice a3 N k3, .slice a4 N4 k4, an'⟩
  have E7 := hE6.keep K7 (by decide)
  have R7 := (HRO.out.keep (Keep.of (T := 0) hb6) (by decide)).set6 (h := w.heap.size) (fun a l c e => by have := HGE.out a l c e; omega) 0 ⟨.slice a0 V k0, .slice a1 G k1, .slice a2 R k2, .slice a3 N k3, .slice a4 N4 k4, an'⟩
  have O7 := (HOE.out.keep (Keep.of (T := 0) hb6) (by decide)).keep K7 (by decide)
  clear K7 HRO HOE HGE hE6
  have HX7 := show Hid (Bx w w.heap.size ⟨.slice a0 V k0, .slice a1 G k1, .slice a2 R k2, .slice a3 N k3, .slice a4 N4 k4, an'⟩ (set6 w6 w.heap.size 0 ⟨.slice a0 V k0, .slice a1 G k1, .slice a2 R k2, .slice a3 N k3, .slice a4 N4 k4, an'⟩)) from X7
  have HE7 := show Hid (OwnE ⟨.slice a0 V k0, .slice a1 G k1, .slice a2 R k2, .slice a3 N k3, .slice a4 N4 k4, an'⟩ d (set6 w6 w.heap.size 0 ⟨.slice a0 V k0, .slice a1 G k1, .slice a2 R k2, .slice a3 N k3, .slice a4 N4 k4, an'⟩)) from E7
  have HR7 := show Hid (RowsO rs' es (set6 w6 w.heap.size 0 ⟨.slice a0 V k0, .slice a1 G k1, .slice a2 R k2, .slice a3 N k3, .slice a4 N4 k4, an'⟩)) from R7
  have HO7 := show Hid (OwnEs es ds (set6 w6 w.heap.size 0 ⟨.slice a0 V k0, .slice a1 G k1, .slice a2 R k2, .slice a3 N k3, .slice a4 N4 k4, an'⟩)) from O7
  clear X7 E7 R7 O7 X5 X4
  go_wp2_with fail
  clear b0 b1 b2 b3 b4 b5 f0 f1 f2 f3 f4 f5
  obtain ⟨w7, hw7⟩ : ∃ W, set6 w6 w.heap.size 0 ⟨.slice a0 V k0, .slice a1 G k1, .slice a2 R k2, .slice a3 N k3, .slice a4 N4 k4, an'⟩ = W := ⟨_, rfl⟩
  have hw7' : (((((w6.setCell ⟨w.heap.size, 0, none⟩ (.slice a0 V k0)).setCell ⟨w.heap.size, 1, none⟩ (.slice a1 G k1)).setCell ⟨w.heap.size, 2, none⟩ (.slice a2 R k2)).setCell ⟨w.heap.size, 3, none⟩ (.slice a3 N k3)).setCell ⟨w.heap.size, 4, none⟩ (.slice a4 N4 k4)).setCell ⟨w.heap.size, 5, none⟩ (.bool an') = w7 := hw7
  rw [hw7'] 
  rw [hw7] at HX7 HE7 HR7 HO7
  clear hw7 hw7' X6 hlt4 hb4 hb5 hb6
  have HM0 : Hid (d.v.length * d.g.length * d.r.length ≤ 67108864) := by
    have e1 := trip_eq HT.out
    have e2 := HT.out
    show _ ≤ _
    omega
  obtain ⟨M, hM⟩ : ∃ M, d.v.length * d.g.length * d.r.length = M := ⟨_, rfl⟩
  have HTM : Hid (trip d = (M : Int)) := by
    show _ = _
    rw [trip_eq HT.out, hM]
  have hM1 : M ≤ 67108864 := by rw [← hM]; exact HM0.out
  have HM : Hid (d.v.length * d.g.length * d.r.length = M) := hM
  clear hM
  have hel : es.length ≤ 8192 := by rw [HO7.out.1]; exact HL0.out
  have HSL : Hid (∀ (i : Nat) e, es[i]? = some e → Sl e) := fun i e he => by
    have hi := (List.getElem?_eq_some_iff.1 he).1
    exact (HO7.out.2 i e (ds[i]'(by rw [← HO7.out.1]; exact hi)) he (List.getElem?_eq_getElem _)).sl
  have HR7d : Hid (RowsO rs' es w7.drew) := HR7.out.keep (Keep.of (T := 0) (below_drew _ w7 1)) (by decide)
  have HX7d : Hid (Bx w w.heap.size ⟨.slice a0 V k0, .slice a1 G k1, .slice a2 R k2, .slice a3 N k3, .slice a4 N4 k4, an'⟩ w7.drew) := HX7.out.below (below_drew _ _ 1)
  have HX7b : Hid (BoxAt w.heap.size (.slice a0 V k0) (.slice a1 G k1) (.slice a2 R k2) (.slice a3 N k3) (.slice a4 N4 k4) an' w w7.drew) := HX7d.out.boxAt
  have HE7d : Hid (OwnE ⟨.slice a0 V k0, .slice a1 G k1, .slice a2 R k2, .slice a3 N k3, .slice a4 N4 k4, an'⟩ d w7.drew) := HE7.out.keep (Keep.of (T := 0) (below_drew _ w7 1)) (by decide)
  have HO7d : Hid (OwnEs es ds w7.drew) := HO7.out.keep (Keep.of (T := 0) (below_drew _ w7 1)) (by decide)
  obtain ⟨b0, b1, b2, b3, b4, b5⟩ := HX7.out.cells
  obtain ⟨ro, rc, hrs, -⟩ := HR7.out.uni
  subst hrs
  clear HX7 HE7 HR7 HO7
  go_region_held3 (fun w' => Below w.heap.size w w' ∧ w'.cell? ⟨w.heap.size, 0, none⟩ = some (.slice a0 V k0) ∧ w'.cell? ⟨w.heap.size, 1, none⟩ = some (.slice a1 G k1) ∧ w'.cell? ⟨w.heap.size, 2, none⟩ = some (.slice a2 R k2) ∧ w'.cell? ⟨w.heap.size, 3, none⟩ = some (.slice a3 N k3) ∧ w'.cell? ⟨w.heap.size, 4, none⟩ = some (.slice a4 N4 k4) ∧ w'.cell? ⟨w.heap.size, 5, none⟩ = some (.bool an'))
    (first | with_reducible exact BoxAt.below (by assumption) (by assumption) | exact HX7b.out | exact HX10b.out)
    (first
      | (go_at_call 14; refine (toRRsO_any HR7d.out (by omega) HSL.out).mono ?_; rintro en w8 ⟨q8, rfl, hb8, hRE8, hq8⟩; have HRE8 : Hid (RowE 34 q8 es.length es w8) := hRE8; clear hRE8)
      | (go_at_call 15; refine (toRR2_any a0 a1 a2 a3 a4 V G R N N4 k0 k1 k2 k3 k4 an' _).mono ?_; rintro en w9 ⟨rfl, hb9⟩; have hb89 := hb8.trans (hb9.mono hb8.size); have HX9 : Hid (Bx w w.heap.size ⟨.slice a0 V k0, .slice a1 G k1, .slice a2 R k2, .slice a3 N k3, .slice a4 N4 k4, an'⟩ w9) := HX7d.out.below hb89; have HE9 : Hid (OwnE ⟨.slice a0 V k0, .slice a1 G k1, .slice a2 R k2, .slice a3 N k3, .slice a4 N4 k4, an'⟩ d w9) := HE7d.out.keep (Keep.of (T := 0) hb89) (by decide); have HR9 : Hid (RowsO (.slice ro es.length rc) es w9) := HR7d.out.keep (Keep.of (T := 0) hb89) (by decide); have HO9 : Hid (OwnEs es ds w9) := HO7d.out.keep (Keep.of (T := 0) hb89) (by decide); have hmx : es.length ≤ maxLen := (by unfold maxLen; omega); have HOW9 : Hid (w9.ownsRow w.heap.size 34 6 (.slice (some ⟨q8, 0, none⟩) es.length es.length) es.length (flat es)) := (HRE8.out.below hb9).owns rfl (Nat.le_trans HX7d.out.bel.size hq8) hmx)
      | (go_at_call 13; refine (zappend_any (base := w.heap.size) HOW9.out HE9.out HO.out HX9.out.bel.size hel HM0.out).mono ?_; rintro en w10 ⟨out, ts, rfl, hApp⟩; have HA : Hid (App w.heap.size d ⟨.slice a0 V k0, .slice a1 G k1, .slice a2 R k2, .slice a3 N k3, .slice a4 N4 k4, an'⟩ es w9 out ts w10) := hApp; clear hApp; have HX10 : Hid (Bx w w.heap.size ⟨.slice a0 V k0, .slice a1 G k1, .slice a2 R k2, .slice a3 N k3, .slice a4 N4 k4, an'⟩ w10) := ⟨HX9.out.bel.trans HA.out.bel, HA.out.keep _ _ 25 _ (by decide) HX9.out.box⟩; have HX10b : Hid (BoxAt w.heap.size (.slice a0 V k0) (.slice a1 G k1) (.slice a2 R k2) (.slice a3 N k3) (.slice a4 N4 k4) an' w w10) := HX10.out.boxAt))
  clear b0 b1 b2 b3 b4 b5
  have L10 : Lp w d ⟨.slice a0 V k0, .slice a1 G k1, .slice a2 R k2, .slice a3 N k3, .slice a4 N4 k4, an'⟩ es ts (.slice ro es.length rc) out w10 := ⟨HX10.out, HE9.out.keep HA.out.keep (by decide), (HR9.out.keep HA.out.keep (by decide)).uni, HA.out.uni, HA.out.hist⟩
  have O10 := HO9.out.keep HA.out.keep (by decide)
  have HRV : Hid (∀ (i : Nat) e, es[i]? = some e → ∃ d, RuleV e d w10) := fun i e he => by
    have hi := (List.getElem?_eq_some_iff.1 he).1
    exact ⟨_, (O10.2 i e (ds[i]'(by rw [← O10.1]; exact hi)) he (List.getElem?_eq_getElem _)).rule⟩
  have HTL : Hid (ts.length = M) := HA.out.len.trans HM.out
  obtain ⟨oo, oc, hout, -⟩ := HA.out.uni
  have hol : (es ++ ts).length = es.length + M := by rw [List.length_append, HTL.out]
  rw [hol] at hout
  subst hout
  have HOL : Hid ((es ++ ts).length = es.length + M) := hol
  have HL10 : Hid (Lp w d ⟨.slice a0 V k0, .slice a1 G k1, .slice a2 R k2, .slice a3 N k3, .slice a4 N4 k4, an'⟩ es ts (.slice ro es.length rc) (.slice oo (es.length + M) oc) w10) := L10
  clear hol O10 L10 HA HX10b HX10 HX9 HE9 HR9 HO9 HOW9 HRE8 HX7d HX7b HE7d HO7d HR7d
  obtain ⟨b0, b1, b2, b3, b4, b5⟩ := HL10.out.bx.cells
  have R16 := triples_any HL10.out.own.rule HO.out
  rw [HTM.out] at R16
  go_wp2_with fail
  go_at_call 16
  refine R16.mono ?_
  rintro en w11 ⟨rfl, hb11⟩
  have HL11 : Hid (Lp w d ⟨.slice a0 V k0, .slice a1 G k1, .slice a2 R k2, .slice a3 N k3, .slice a4 N4 k4, an'⟩ es ts (.slice ro es.length rc) (.slice oo (es.length + M) oc) w11) := HL10.out.below hb11
  clear b0 b1 b2 b3 b4 b5 R16
  have R17 := kept_any (ds := ds) HL11.out.uni HL11.out.rows (fun i e he => by obtain ⟨d', hd'⟩ := HRV.out i e he; exact ⟨d', hd'.below hb11⟩) (by rw [HOL.out]; omega)
  go_wp2_with fail
  go_at_call 17
  refine R17.mono ?_
  rintro en w12 ⟨rfl, hb12⟩
  have HL12 : Hid (Lp w d ⟨.slice a0 V k0, .slice a1 G k1, .slice a2 R k2, .slice a3 N k3, .slice a4 N4 k4, an'⟩ es ts (.slice ro es.length rc) (.slice oo (es.length + M) oc) w12) := HL11.out.below hb12
  clear R17 HL10 HL11 HRV
  go_wp2_with fail
  go_loopw [9] (fun i wr => ∃ k : Nat, k ≤ M ∧ i = .int .i64 k ∧ Below w12.heap.size w12 wr) (fun i _ => M - (intOf i).toNat)
  case atStart => exact ⟨0, Nat.zero_le _, rfl, Below.refl _ _⟩
  case round =>
    obtain ⟨k, hk, rfl, hb⟩ := hrel
    by_cases hkM : k < M
    · have L := HL12.out.below hb
      have hvgr : V * (G * R) = M := by rw [← Nat.mul_assoc, ← HVv.out, ← HGg.out, ← HRr.out]; exact HM.out
      have hgr0 : 0 < G * R := by
        rcases Nat.eq_zero_or_pos (G * R) with e1 | e1
        · rw [e1] at hvgr; omega
        · exact e1
      have hG0 : 0 < G := Nat.pos_of_mul_pos_right hgr0
      have hR0 : 0 < R := Nat.pos_of_mul_pos_left hgr0
      have hA1 : k / (G * R) < V := (Nat.div_lt_iff_lt_mul hgr0).2 (by rw [hvgr]; exact hkM)
      have hB1 : (k / R) % G < G := Nat.mod_lt _ hG0
      have hC1 : k % R < R := Nat.mod_lt _ hR0
      obtain ⟨x, hx⟩ : ∃ x, ts[k]? = some x := ⟨ts[k]'(by rw [HTL.out]; exact hkM), List.getElem?_eq_getElem _⟩
      obtain ⟨g, rfl, hrg⟩ := L.elem hx
      have T := L.hist k x hx
      clear hx
      obtain ⟨x0, x1, x2, x3, x4, xa⟩ := x
      obtain ⟨p0, q0, e0⟩ := StrsAt.len T.s0.str
      obtain ⟨p1, q1, e1⟩ := StrsAt.len T.s1.str
      obtain ⟨p2, q2, e2⟩ := StrsAt.len T.s2.str
      obtain ⟨p3, q3, e3⟩ := StrsAt.len T.s3.str
      have e4 := T.s4
      have e5 := T.an
      simp only [List.length_cons, List.length_nil, Nat.zero_add] at e0 e1 e2 e3 e4 e5
      rw [HNn.out] at e3
      subst e0 e1 e2 e3 e4 e5
      obtain ⟨g0, rfl, hv0⟩ := L.own.s0.cell (i := k / (G * R)) (by rw [HVv.out]; exact hA1)
      obtain ⟨g1, rfl, hv1⟩ := L.own.s1.cell (i := (k / R) % G) (by rw [HGg.out]; exact hB1)
      obtain ⟨g2, rfl, hv2⟩ := L.own.s2.cell (i := k % R) (by rw [HRr.out]; exact hC1)
      have T0 := T.s0.str
      have T1 := T.s1.str
      have T2 := T.s2.str
      rw [HGg.out, HRr.out] at T0
      rw [HGg.out, HRr.out] at T1
      rw [HRr.out] at T2
      have T3 := T.s3.str
      have T3' := L.own.s3.str
      have T4 := L.own.s4.str
      have hni : (Value.slice p3 N q3 = .slice none 0 0) ↔ d.n = [] := T.nil
      obtain ⟨v, hve⟩ : ∃ v, d.v.getD (k / (G * R)) ByteArray.empty = v := ⟨_, rfl⟩
      obtain ⟨u, hue⟩ : ∃ u, d.g.getD ((k / R) % G) ByteArray.empty = u := ⟨_, rfl⟩
      obtain ⟨y, hye⟩ : ∃ y, d.r.getD (k % R) ByteArray.empty = y := ⟨_, rfl⟩
      rw [hve] at hv0 T0
      rw [hue] at hv1 T1
      rw [hye] at hv2 T2
      clear hve hue hye
      have HW : Hid (∀ o nq, Below wr.heap.size wr ((wr.alloc o).drewN nq)) := fun o nq => below_box wr o nq
      have HT0 : Hid (∀ W, Below wr.heap.size wr W → StrsAt (.slice p0 1 q0) [v] W) := fun Z hz => W.StrsAt.below T0 hz
      have HT1 : Hid (∀ W, Below wr.heap.size wr W → StrsAt (.slice p1 1 q1) [u] W) := fun Z hz => W.StrsAt.below T1 hz
      have HT2 : Hid (∀ W, Below wr.heap.size wr W → StrsAt (.slice p2 1 q2) [y] W) := fun Z hz => W.StrsAt.below T2 hz
      have HT3 : Hid (∀ W, Below wr.heap.size wr W → StrsAt (.slice p3 N q3) d.n W) := fun Z hz => W.StrsAt.below T3 hz
      have HT3' : Hid (∀ W, Below wr.heap.size wr W → StrsAt (.slice a3 N k3) d.n W) := fun Z hz => W.StrsAt.below T3' hz
      have HT4 : Hid (∀ W, Below wr.heap.size wr W → StrsAt (.slice a4 N4 k4) d.b W) := fun Z hz => W.StrsAt.below T4 hz
      obtain ⟨b0, b1, b2, b3, b4, b5⟩ := L.bx.cells
      have hbel := L.bx.bel
      have hlt := (Array.getElem?_eq_some_iff.1 L.bx.box).1
      have lv0 := World.block_lt_of_cell? wr _ hv0
      have lv1 := World.block_lt_of_cell? wr _ hv1
      have lv2 := World.block_lt_of_cell? wr _ hv2
      obtain ⟨j0, j1, j2, j3, j4, j5⟩ := range6 hrg
      have HBEL : Hid (Below w.heap.size w wr) := hbel
      have HNI : Hid ((Value.slice p3 N q3 = .slice none 0 0) ↔ d.n = []) := hni
      clear T T0 T1 T2 T3 T3' T4 L hrg hbel hni
      simp only at j0 j1 j2 j3 j4 j5 hlt lv0 lv1 lv2
      generalize hA : k / (G * R) = A at *
      generalize hB : (k / R) % G = B at *
      generalize hC : k % R = C at *
      have HA : Hid (k / (G * R) = A) := hA
      have HB : Hid ((k / R) % G = B) := hB
      have HC : Hid (k % R = C) := hC
      have HVGR : Hid (V * (G * R) = M) := hvgr
      clear hA hB hC hvgr
      obtain ⟨GR, hGR⟩ : ∃ n, G * R = n := ⟨_, rfl⟩
      obtain ⟨KR, hKR⟩ : ∃ n, k / R = n := ⟨_, rfl⟩
      have hGR1 : 0 < GR := by rw [← hGR]; exact hgr0
      have hGR2 : GR ≤ 4294967296 := by rw [← hGR]; exact Nat.mul_le_mul y1 y2
      have hGR3 : ((G : Int) * (R : Int)) = (GR : Int) := by rw [← hGR]; exact (Int.natCast_mul G R).symm
      have hm1 : IntKind.i64.wrap ((G : Int) * (R : Int)) = (GR : Int) := by rw [hGR3]; exact wrapS (by omega) (by omega)
      have hd1 : Int.tdiv (k : Int) (GR : Int) = (A : Int) := by
        rw [← HA.out, hGR]; exact (Int.ofNat_tdiv k GR).symm
      have hd2 : Int.tdiv (k : Int) (R : Int) = (KR : Int) := by
        rw [← hKR]; exact (Int.ofNat_tdiv k R).symm
      have hd3 : Int.tmod (KR : Int) (G : Int) = (B : Int) := by
        rw [← HB.out, hKR]; exact (Int.ofNat_tmod KR G).symm
      have hd4 : Int.tmod (k : Int) (R : Int) = (C : Int) := by
        rw [← HC.out]; exact (Int.ofNat_tmod k R).symm
      have hKR1 : KR ≤ k := by rw [← hKR]; exact Nat.div_le_self _ _
      have hi1 : (A : Int) < V := by omega
      have hi2 : (B : Int) < G := by omega
      have hi3 : (C : Int) < R := by omega
      have hn1 : (GR : Int) ≠ 0 := by omega
      have hn2 : (R : Int) ≠ 0 := by omega
      have hn3 : (G : Int) ≠ 0 := by omega
      clear hGR hKR hgr0 hGR3
      go_wp2_with fail
      go_quiet (first
        | (go_at_call 18; first | exact Calls.quiet_of_same (oneStr_any (HT0.out _ (HW.out _ _))) | exact Calls.quiet_of_same (oneStr_any (HT1.out _ (HW.out _ _))) | exact Calls.quiet_of_same (oneStr_any (HT2.out _ (HW.out _ _)))))
      rcases HT3.out wr (Below.refl _ _) with ⟨hz0, hz2⟩ | ⟨ap, cp, hz0, -, -, -, -⟩
      · cases hz0
        have hn5 := fun Z => Lib.run_eql_slice_nil_nil (P := Try.prog) Z (t := 23) 0 0 Try.underlying23
        go_wp2_with fail
        go_at_call 19
        refine (eqStrs_any (HT3.out _ (HW.out _ _)) (HT3'.out _ (HW.out _ _))).mono ?_
        rintro en w14 ⟨rfl, m1, rfl⟩
        go_wp2_with fail
        go_at_call 19
        refine (eqStrs_any (HT4.out _ (HW.out _ _)) (HT4.out _ (HW.out _ _))).mono ?_
        rintro en w15 ⟨rfl, m2, rfl⟩
        rcases HT4.out wr (Below.refl _ _) with ⟨hz1, -⟩ | ⟨aa, cc, hz1, -, -, -, -⟩
        · cases hz1
          have hn2 := fun Z => Lib.run_eql_slice_nil_nil (P := Try.prog) Z (t := 23) 0 0 Try.underlying23
          go_wp2
          go_roundw
          case rel => exact ⟨k + 1, by omega, by go_num, hb.trans ((HW.out _ _).mono hb.size)⟩
          case measure => simp [intOf]; omega
        · cases hz1
          have hn2 := fun Z => Lib.run_eql_slice_some_nil (P := Try.prog) Z (t := 23) aa d.b.length k4 Try.underlying23
          go_wp2
          go_roundw
          case rel => exact ⟨k + 1, by omega, by go_num, hb.trans ((HW.out _ _).mono hb.size)⟩
          case measure => simp [intOf]; omega
      · have hN0 : 0 < N := by
          rcases Nat.eq_zero_or_pos N with e1 | e1
          · have e2 := HNI.out.2 (List.eq_nil_of_length_eq_zero (HNn.out.trans e1))
            rw [hz0] at e2
            cases e2
          · exact e1
        have hz3 : p3 = some ap := by cases hz0; rfl
        subst hz3
        have hn5 := fun Z => Lib.run_eql_slice_some_nil (P := Try.prog) Z (t := 23) ap N q3 Try.underlying23
        clear hz0
        go_wp2_with fail
        go_at_call 19
        refine (eqStrs_any (HT3.out _ (HW.out _ _)) (HT3'.out _ (HW.out _ _))).mono ?_
        rintro en w14 ⟨rfl, m1, rfl⟩
        go_wp2_with fail
        go_at_call 19
        refine (eqStrs_any (HT4.out _ (HW.out _ _)) (HT4.out _ (HW.out _ _))).mono ?_
        rintro en w15 ⟨rfl, m2, rfl⟩
        rcases HT4.out wr (Below.refl _ _) with ⟨hz1, -⟩ | ⟨aa, cc, hz1, -, -, -, -⟩
        · cases hz1
          have hn2 := fun Z => Lib.run_eql_slice_nil_nil (P := Try.prog) Z (t := 23) 0 0 Try.underlying23
          go_wp2
          go_roundw
          case rel => exact ⟨k + 1, by omega, by go_num, hb.trans ((HW.out _ _).mono hb.size)⟩
          case measure => simp [intOf]; omega
        · cases hz1
          have hn2 := fun Z => Lib.run_eql_slice_some_nil (P := Try.prog) Z (t := 23) aa d.b.length k4 Try.underlying23
          go_wp2
          go_roundw
          case rel => exact ⟨k + 1, by omega, by go_num, hb.trans ((HW.out _ _).mono hb.size)⟩
          case measure => simp [intOf]; omega
    · go_wp2
      go_ret
      exact ⟨rfl, (HL12.out.below hb).bx.bel⟩
end Go.Proofs.Qxb6606073a.W
