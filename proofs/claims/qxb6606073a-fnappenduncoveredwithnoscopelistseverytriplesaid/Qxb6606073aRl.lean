import Derived.Test.Qxb6606073aRk
import Derived.Test.Qxb6606073aRt
namespace Go.Proofs.Qxb6606073a.W
open Go.RowKit
set_option linter.unusedVariables false
set_option linter.unusedSimpArgs false

def OwnEs (es : List El) (ds : List Rd) (w : World) : Prop := es.length = ds.length ∧ ∀ (i : Nat) e d, es[i]? = some e → ds[i]? = some d → OwnE e d w

theorem OwnEs.keep {T : TypeId} {es : List El} {ds : List Rd} {w w' : World} (h : OwnEs es ds w) (k : Keep T w w') (hT : (9 : TypeId) ≠ T) : OwnEs es ds w' :=
  ⟨h.1, fun i e d he hd => (h.2 i e d he hd).keep k hT⟩

theorem OwnEs.step {es : List El} {ds : List Rd} {k : Nat} {w : World} {e : El} {d : Rd} (h : OwnEs es (ds.take k) w) (hd : ds[k]? = some d) (he : OwnE e d w) : OwnEs (es ++ [e]) (ds.take (k + 1)) w := by
  have hk := (List.getElem?_eq_some_iff.1 hd).1
  have hl : es.length = k := by rw [h.1, List.length_take]; omega
  refine ⟨by rw [List.length_append, hl, List.length_take]; simp; omega, fun i x y hx hy => ?_⟩
  by_cases hi : i < k
  · rw [List.getElem?_append_left (by omega)] at hx
    refine h.2 i x y hx ?_
    rw [List.getElem?_take, if_pos (by omega)] at hy ⊢
    exact hy
  · have := (List.getElem?_eq_some_iff.1 hx).1
    simp at this
    obtain rfl : i = k := by omega
    rw [← hl] at hx
    simp at hx
    subst hx
    rw [List.getElem?_take, if_pos (by omega), hd] at hy
    cases hy
    exact he

set_option maxRecDepth 100000 in
set_option maxHeartbeats 2000000 in
theorem cloneRules_any {rs : Value} {ds : List Rd} {w : World} (h : RulesAt rs ds w) (hl : ds.length ≤ 8192) (hok : ∀ (i : Nat) d, ds[i]? = some d → Ok d) :
    Calls Try.prog 11 #[rs] w fun en w' => ∃ rs' es, en = .returned rs' ∧ Below w.heap.size w w' ∧ RowsO rs' es w' ∧ OwnEs es ds w' ∧ ∀ a l c, rs' = .slice (some a) l c → w.heap.size ≤ a.block := by
  obtain ⟨ao, cap, rfl, h2, h3, h4, h5⟩ := h
  cases ao with
  | none =>
    obtain rfl := h4 rfl
    obtain rfl : ds = [] := List.eq_nil_of_length_eq_zero (by omega)
    have hnil := Lib.run_eql_slice_nil_nil (P := Try.prog) w (t := 22) 0 0 Try.underlying22
    clear h5 hok h4
    go_enter Try.func11, Try.ntmps11
    go_wp2
    go_ret
    exact ⟨_, [], rfl, Below.refl _ _, .inl ⟨rfl, rfl⟩, ⟨rfl, fun i e d he => by simp at he⟩, fun a l c e => by cases e⟩
  | some a =>
  obtain ⟨n, hn⟩ : ∃ n, ds.length = n := ⟨_, rfl⟩
  have H5 : Hid (∀ (i : Nat) d, ds[i]? = some d → ∃ b o e, some a = some (⟨b, o, none⟩ : Addr) ∧ w.rangeAt b (o + i * 6) (El.cells e) ∧ RuleV e d w) := h5
  have HN : Hid (ds.length = n) := hn
  have HK : Hid (∀ (i : Nat) d, ds[i]? = some d → Ok d) := hok
  rw [hn] at hl h2 ⊢
  clear hn h5 hok h4
  have hnil := Lib.run_eql_slice_some_nil (P := Try.prog) w (t := 22) a n cap Try.underlying22
  obtain ⟨i0, hi, hz0, hz1, hz2⟩ := info_parts info25
  go_enter Try.func11, Try.ntmps11
  go_wp2_with (at_make; refine wpList_make_full _ rfl _ _ 22 rfl w.heap.size 25 i0 _ 6 Try.underlying22 hi hz0 hz1 _ _ _ _ n rfl rfl rfl rfl (by rw [hz2]; omega) (by unfold maxLen; omega) (Nat.le_refl _) ?_
               intro w0 hown0 hgrow0)
  have hb0 : Below w.heap.size w w0 := (Below.refl _ _).grown hgrow0 (Nat.le_refl _) (fun k h => by cases h)
  have hR0 : RowE 25 w.heap.size n [] w0 := by
    rcases hown0.2 with ⟨e1, _⟩ | ⟨g', cap', cur, e1, _, e2, _, _, e5, _⟩
    · cases e1
    · cases e1; exact ⟨cur, e2, e5, Nat.zero_le _, fun i e he => by simp at he⟩
  clear hown0 hgrow0 hnil
  go_loopw [4] (fun i wr => ∃ (k : Nat) (es : List El), k ≤ n ∧ i = .int .i64 k ∧ RowE 25 w.heap.size n es wr ∧ OwnEs es (ds.take k) wr ∧ Below w.heap.size w wr) (fun i _ => n - (intOf i).toNat)
  case atStart => exact ⟨0, [], Nat.zero_le _, rfl, hR0, ⟨rfl, fun i e d he => by simp at he⟩, hb0⟩
  case round =>
    obtain ⟨k, es, hk, rfl, hR, hO, hb⟩ := hrel
    by_cases hkn : k < n
    · have hkl : k < ds.length := by have := HN.out; omega
      have HL : Hid (es.length = k) := by show _ = _; rw [hO.1, List.length_take]; omega
      obtain ⟨d, hd⟩ : ∃ d, ds[k]? = some d := ⟨ds[k], List.getElem?_eq_getElem _⟩
      obtain ⟨b, o, e, hae, hr, hv⟩ := H5.out k d hd
      obtain rfl : a = ⟨b, o, none⟩ := Option.some.inj hae
      have R := cloneRule_any (hv.below hb) (HK.out k d hd)
      obtain ⟨c0, c1, c2, c3, c4, an⟩ := e
      obtain ⟨e0, e1, e2, e3, e4, e5⟩ := range6 (rangeAt_below hr hb)
      have HD : Hid (ds[k]? = some d) := hd
      clear hd hr hkl hae hv
      go_wp2_with fail
      go_at_call 12
      refine R.mono ?_
      rintro en w2 ⟨e', rfl, hOE, hb2⟩
      obtain ⟨a0, i0, k0, a1, i1, k1, a2, i2, k2, a3, i3, k3, a4, i4, k4, hsl⟩ := hOE.sl
      obtain ⟨x0, x1, x2, x3, x4, an'⟩ := e'
      simp only [El.mk.injEq] at hsl
      obtain ⟨rfl, rfl, rfl, rfl, rfl, -⟩ := hsl
      have hR2 := hR.below hb2
      have hb3 := hb.trans (hb2.mono hb.size)
      have nx := fun j hj => hR2.next (by rw [HL.out]; exact hkn) j hj
      rw [HL.out] at nx
      obtain ⟨y0, p0, f0⟩ := nx 0 (by decide)
      obtain ⟨y1, p1, f1⟩ := nx 1 (by decide)
      obtain ⟨y2, p2, f2⟩ := nx 2 (by decide)
      obtain ⟨y3, p3, f3⟩ := nx 3 (by decide)
      obtain ⟨y4, p4, f4⟩ := nx 4 (by decide)
      obtain ⟨y5, p5, f5⟩ := nx 5 (by decide)
      rw [Nat.add_zero] at p0 f0
      have hst := hR2.step (by rw [HL.out]; exact hkn) ⟨.slice a0 i0 k0, .slice a1 i1 k1, .slice a2 i2 k2, .slice a3 i3 k3, .slice a4 i4 k4, an'⟩
      have hkp : Keep 25 w2 (set6 w2 w.heap.size (k * 6) ⟨.slice a0 i0 k0, .slice a1 i1 k1, .slice a2 i2 k2, .slice a3 i3 k3, .slice a4 i4 k4, an'⟩) := by
        obtain ⟨cur, q1, _⟩ := hR2
        exact set6_keep q1 _
      have hO2 := OwnEs.step (((hO.keep (Keep.of (T := 0) hb2) (by decide)).keep hkp (by decide))) HD.out (hOE.keep hkp (by decide))
      rw [HL.out] at hst
      have hb4 := set6_below (o := k * 6) hb3 (Nat.le_refl _) ⟨.slice a0 i0 k0, .slice a1 i1 k1, .slice a2 i2 k2, .slice a3 i3 k3, .slice a4 i4 k4, an'⟩
      have HST := show Hid _ from hst
      have HB4 := show Hid _ from hb4
      have HO2 := show Hid _ from hO2
      clear hst hb4 hR hR2 nx R e0 e1 e2 e3 e4 e5 hO hO2 hkp hOE
      go_wp2
      go_roundw
      case rel => exact ⟨k + 1, _, by omega, by go_num, HST.out, HO2.out, HB4.out⟩
      case measure => simp [intOf]; omega
    · go_wp2
      go_ret
      obtain rfl : k = n := by omega
      rw [List.take_of_length_le (by have := HN.out; omega)] at hO
      have hel : es.length = k := by rw [hO.1, HN.out]
      refine ⟨_, es, rfl, hb, .inr ⟨w.heap.size, by rw [hel]; rfl, by rw [hel]; exact hR⟩, hO, fun a l c e => by cases e; exact Nat.le_refl _⟩
end Go.Proofs.Qxb6606073a.W
