import Derived.Test.Qxb6606073aRr
namespace Go.Proofs.Qxb6606073a.W
open Go.RowKit
set_option linter.unusedVariables false
set_option linter.unusedSimpArgs false

theorem info34 : (Try.prog.info? 34).map (fun i => (i.zero, i.size, i.bytes)) = some (some (.agg #[.slice none 0 0, .slice none 0 0, .slice none 0 0, .slice none 0 0, .slice none 0 0, .bool false]), 6, 128) := by kernel_rfl
theorem info25 : (Try.prog.info? 25).map (fun i => (i.zero, i.size, i.bytes)) = some (some (.agg #[.slice none 0 0, .slice none 0 0, .slice none 0 0, .slice none 0 0, .slice none 0 0, .bool false]), 6, 128) := by kernel_rfl

set_option maxRecDepth 100000 in
set_option maxHeartbeats 2000000 in
theorem toRR2_any (a b c d e : Option Addr) (i1 i2 i3 i4 i5 j1 j2 j3 j4 j5 : Nat) (ra : Bool) (w : World) :
    Calls Try.prog 15 #[.agg #[.slice a i1 j1, .slice b i2 j2, .slice c i3 j3, .slice d i4 j4, .slice e i5 j5, .bool ra]] w fun en w' =>
      en = .returned (.agg #[.slice a i1 j1, .slice b i2 j2, .slice c i3 j3, .slice d i4 j4, .slice e i5 j5, .bool ra]) ∧ Below w.heap.size w w' := by
  go_enter Try.func15, Try.ntmps15
  go_wp2
  refine bodyPost_ret (results_cell_row rfl _ _ (w.heap.size + 1) 34 #[.slice a i1 j1, .slice b i2 j2, .slice c i3 j3, .slice d i4 j4, .slice e i5 j5, .bool ra] (0, 0) _ rfl (heap_alloc2_new _ _ _) Try.underlying34 rfl (by kernel_rfl)) rfl ?_
  exact ⟨rfl, ((Below.refl _ _).alloc (Nat.le_refl _) _).alloc (by simp) _⟩

/-- The five are slices. -/
def Sl (e : El) : Prop := ∃ a0 i0 k0 a1 i1 k1 a2 i2 k2 a3 i3 k3 a4 i4 k4, e = ⟨.slice a0 i0 k0, .slice a1 i1 k1, .slice a2 i2 k2, .slice a3 i3 k3, .slice a4 i4 k4, e.an⟩

theorem OwnE.sl {e : El} {d : Rd} {w : World} (h : OwnE e d w) : Sl e := by
  obtain ⟨c0, c1, c2, c3, c4, an⟩ := e
  obtain ⟨a0, k0, x0⟩ := StrsAt.len h.s0.str
  obtain ⟨a1, k1, x1⟩ := StrsAt.len h.s1.str
  obtain ⟨a2, k2, x2⟩ := StrsAt.len h.s2.str
  obtain ⟨a3, k3, x3⟩ := StrsAt.len h.s3.str
  obtain ⟨a4, k4, x4⟩ := StrsAt.len h.s4.str
  simp only at x0 x1 x2 x3 x4
  subst x0 x1 x2 x3 x4
  exact ⟨_, _, _, _, _, _, _, _, _, _, _, _, _, _, _, rfl⟩

/-- A slice of rules of the call's own. -/
def RowsO (rs : Value) (es : List El) (w : World) : Prop :=
  (rs = .slice none 0 0 ∧ es = []) ∨ ∃ g, rs = .slice (some ⟨g, 0, none⟩) es.length es.length ∧ RowE 25 g es.length es w

theorem RowsO.keep {rs : Value} {es : List El} {w w' : World} {U : TypeId} (h : RowsO rs es w) (k : Keep U w w') (hU : (25 : TypeId) ≠ U) : RowsO rs es w' := by
  rcases h with h | ⟨g, h1, h2⟩
  · exact .inl h
  · exact .inr ⟨g, h1, h2.keep k hU⟩

theorem RowsO.uni {rs : Value} {es : List El} {w : World} (h : RowsO rs es w) : ∃ ao cap, rs = .slice ao es.length cap ∧ ∀ (i : Nat) e, es[i]? = some e → ∃ g, ao = some ⟨g, 0, none⟩ ∧ w.rangeAt g (i * 6) e.cells := by
  rcases h with ⟨h, rfl⟩ | ⟨g, h1, h2⟩
  · exact ⟨none, 0, h, fun i e he => by simp at he⟩
  · exact ⟨_, _, h1, fun i e he => ⟨g, rfl, h2.range he⟩⟩

set_option maxRecDepth 100000 in
set_option maxHeartbeats 2000000 in
theorem toRRsO_any {rs : Value} {es : List El} {w : World} (h : RowsO rs es w) (hl : es.length ≤ 1048576) (hsl : ∀ (i : Nat) e, es[i]? = some e → Sl e) :
    Calls Try.prog 14 #[rs] w fun en w' => ∃ q, en = .returned (.slice (some ⟨q, 0, none⟩) es.length es.length) ∧ Below w.heap.size w w' ∧ RowE 34 q es.length es w' ∧ w.heap.size ≤ q := by
  obtain ⟨ao, cap, rfl, h5⟩ := h.uni
  clear h
  obtain ⟨n, hn⟩ : ∃ n, es.length = n := ⟨_, rfl⟩
  have H5 : Hid (∀ (i : Nat) e, es[i]? = some e → ∃ g, ao = some ⟨g, 0, none⟩ ∧ w.rangeAt g (i * 6) e.cells) := h5
  have HN : Hid (es.length = n) := hn
  have HS : Hid (∀ (i : Nat) e, es[i]? = some e → Sl e) := hsl
  rw [hn] at hl ⊢
  clear hn h5 hsl
  obtain ⟨i0, hi, hz0, hz1, hz2⟩ := info_parts info34
  go_enter Try.func14, Try.ntmps14
  go_wp2_with (at_make; refine wpList_make_full _ rfl _ _ 31 rfl w.heap.size 34 i0 _ 6 Try.underlying31 hi hz0 hz1 _ _ _ _ n rfl rfl rfl rfl (by rw [hz2]; omega) (by unfold maxLen; omega) (Nat.le_refl _) ?_
               intro w0 hown0 hgrow0)
  have hb0 : Below w.heap.size w w0 := (Below.refl _ _).grown hgrow0 (Nat.le_refl _) (fun k h => by cases h)
  have hR0 : RowE 34 w.heap.size n [] w0 := by
    rcases hown0.2 with ⟨e1, _⟩ | ⟨g', cap', cur, e1, _, e2, _, _, e5, _⟩
    · cases e1
    · cases e1; exact ⟨cur, e2, e5, Nat.zero_le _, fun i e he => by simp at he⟩
  clear hown0 hgrow0
  go_loopw [4] (fun i wr => ∃ k : Nat, k ≤ n ∧ i = .int .i64 k ∧ RowE 34 w.heap.size n (es.take k) wr ∧ Below w.heap.size w wr) (fun i _ => n - (intOf i).toNat)
  case atStart => exact ⟨0, Nat.zero_le _, rfl, hR0, hb0⟩
  case round =>
    obtain ⟨k, hk, rfl, hR, hb⟩ := hrel
    by_cases hkn : k < n
    · have hkl : k < es.length := by have := HN.out; omega
      have HL : Hid ((es.take k).length = k) := by show _ = _; rw [List.length_take]; omega
      obtain ⟨e, he⟩ : ∃ e, es[k]? = some e := ⟨es[k], List.getElem?_eq_getElem _⟩
      have HT : Hid (es.take (k + 1) = es.take k ++ [e]) := by
        show _ = _
        rw [List.take_add_one, he]; rfl
      obtain ⟨g, rfl, hr⟩ := H5.out k e he
      obtain ⟨a0, i0, k0, a1, i1, k1, a2, i2, k2, a3, i3, k3, a4, i4, k4, hsl⟩ := HS.out k e he
      obtain ⟨c0, c1, c2, c3, c4, an⟩ := e
      simp only [El.mk.injEq] at hsl
      obtain ⟨rfl, rfl, rfl, rfl, rfl, -⟩ := hsl
      obtain ⟨e0, e1, e2, e3, e4, e5⟩ := range6 (rangeAt_below hr hb)
      clear he hr hkl
      have R := toRR2_any a0 a1 a2 a3 a4 i0 i1 i2 i3 i4 k0 k1 k2 k3 k4 an wr
      go_wp2_with fail
      go_at_call 15
      refine R.mono ?_
      rintro en w2 ⟨rfl, hb2⟩
      have hR2 := hR.below hb2
      have hb3 := hb.trans (hb2.mono hb.size)
      have nx := fun j hj => hR2.next (by rw [HL.out]; exact hkn) j hj
      rw [HL.out] at nx
      obtain ⟨y0, p0, f0⟩ := nx 0 (by decide)
      obtain ⟨y1, p1, f1⟩ := nx 1 (by decide)
      obtain ⟨y2, p2, f2⟩ := nx 2 (by decide)
      obtain ⟨y3, p3, f3⟩ := nx 3 (by decide)
      obtain ⟨y4, p4, f4⟩ := nx 4 (by decide)
      obtain ⟨y5, p5, f5⟩ := nx 5 (by decide)
      rw [Nat.add_zero] at p0 f0
      have hst := hR2.step (by rw [HL.out]; exact hkn) ⟨.slice a0 i0 k0, .slice a1 i1 k1, .slice a2 i2 k2, .slice a3 i3 k3, .slice a4 i4 k4, an⟩
      rw [HL.out, ← HT.out] at hst
      have hb4 := set6_below (o := k * 6) hb3 (Nat.le_refl _) ⟨.slice a0 i0 k0, .slice a1 i1 k1, .slice a2 i2 k2, .slice a3 i3 k3, .slice a4 i4 k4, an⟩
      have HST : Hid (RowE 34 w.heap.size n (es.take (k + 1)) (set6 w2 w.heap.size (k * 6) ⟨.slice a0 i0 k0, .slice a1 i1 k1, .slice a2 i2 k2, .slice a3 i3 k3, .slice a4 i4 k4, an⟩)) := hst
      have HB4 : Hid (Below w.heap.size w (set6 w2 w.heap.size (k * 6) ⟨.slice a0 i0 k0, .slice a1 i1 k1, .slice a2 i2 k2, .slice a3 i3 k3, .slice a4 i4 k4, an⟩)) := hb4
      clear hst hb4 hR hR2 nx R e0 e1 e2 e3 e4 e5
      go_wp2
      go_roundw
      case rel => exact ⟨k + 1, by omega, by go_num, HST.out, HB4.out⟩
      case measure => simp [intOf]; omega
    · go_wp2
      go_ret
      obtain rfl : k = n := by omega
      rw [List.take_of_length_le (by have := HN.out; omega)] at hR
      exact ⟨w.heap.size, rfl, hb, hR, Nat.le_refl _⟩
end Go.Proofs.Qxb6606073a.W
