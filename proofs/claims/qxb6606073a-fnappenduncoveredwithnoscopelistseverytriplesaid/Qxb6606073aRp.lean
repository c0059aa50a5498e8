import Derived.Test.Qxb6606073aRt
import Derived.Test.Qxb6606073aRq
namespace Go.Proofs.Qxb6606073a.W
open Go.RowKit
set_option linter.unusedVariables false
set_option linter.unusedSimpArgs false

theorem below_two (w : World) (A B : Obj) : Below w.heap.size w ((w.alloc A).alloc B) := ((Below.refl _ _).alloc (Nat.le_refl _) _).alloc (by simp) _

set_option maxRecDepth 100000 in
set_option maxHeartbeats 1000000 in
theorem sameRule_any {e : El} {d : Rd} {w : World} (h : RuleV e d w) :
    Calls Try.prog 44 #[.agg #[e.c0, e.c1, e.c2, e.c3, e.c4, .bool e.an], .agg #[e.c0, e.c1, e.c2, e.c3, e.c4, .bool e.an]] w fun en w' => en = .returned (.bool true) ∧ Below w.heap.size w w' := by
  obtain ⟨c0, c1, c2, c3, c4, an⟩ := e
  have Q0 : Hid (∀ w', Below w.heap.size w w' → StrsAt c0 d.v w') := fun w' hb => W.StrsAt.below h.s0 hb
  have Q1 : Hid (∀ w', Below w.heap.size w w' → StrsAt c1 d.g w') := fun w' hb => W.StrsAt.below h.s1 hb
  have Q2 : Hid (∀ w', Below w.heap.size w w' → StrsAt c2 d.r w') := fun w' hb => W.StrsAt.below h.s2 hb
  have Q3 : Hid (∀ w', Below w.heap.size w w' → StrsAt c3 d.n w') := fun w' hb => W.StrsAt.below h.s3 hb
  have Q4 : Hid (∀ w', Below w.heap.size w w' → StrsAt c4 d.b w') := fun w' hb => W.StrsAt.below h.s4 hb
  have B0 : Hid (∀ A B, Below w.heap.size w ((w.alloc A).alloc B)) := fun A B => below_two w A B
  clear h
  go_enter Try.func44, Try.ntmps44
  go_wp2_with fail
  go_at_call 19
  refine (eqStrs_any (Q0.out _ (B0.out _ _)) (Q0.out _ (B0.out _ _))).mono ?_
  rintro e w1 ⟨rfl, m1, rfl⟩
  go_wp2_with fail
  go_at_call 19
  refine (eqStrs_any (Q1.out _ ((B0.out _ _).trans (below_drew _ _ _))) (Q1.out _ ((B0.out _ _).trans (below_drew _ _ _)))).mono ?_
  rintro e w2 ⟨rfl, m2, rfl⟩
  go_wp2_with fail
  go_at_call 19
  refine (eqStrs_any (Q2.out _ ((B0.out _ _).trans (below_drew _ _ _))) (Q2.out _ ((B0.out _ _).trans (below_drew _ _ _)))).mono ?_
  rintro e w3 ⟨rfl, m3, rfl⟩
  go_wp2_with fail
  go_at_call 19
  refine (eqStrs_any (Q3.out _ ((B0.out _ _).trans (below_drew _ _ _))) (Q3.out _ ((B0.out _ _).trans (below_drew _ _ _)))).mono ?_
  rintro e w4 ⟨rfl, m4, rfl⟩
  go_wp2_with fail
  go_at_call 19
  refine (eqStrs_any (Q4.out _ ((B0.out _ _).trans (below_drew _ _ _))) (Q4.out _ ((B0.out _ _).trans (below_drew _ _ _)))).mono ?_
  rintro e w5 ⟨rfl, m5, rfl⟩
  go_wp2
  go_ret
  exact ⟨by simp, (B0.out _ _).trans (below_drew _ _ _)⟩

/-- A slice of rules, by its elements' cells. -/
def UniRow (v : Value) (es : List El) (w : World) : Prop := ∃ ao cap, v = .slice ao es.length cap ∧ ∀ (i : Nat) e, es[i]? = some e → ∃ g, ao = some ⟨g, 0, none⟩ ∧ w.rangeAt g (i * 6) e.cells

theorem owns_uni {base T : Nat} {v : Value} {es : List El} {w : World} (h : w.ownsRow base T 6 v es.length (flat es)) : UniRow v es w := by
  rcases h.2 with ⟨rfl, h0⟩ | ⟨g, cap, cur, rfl, hb, hg, _⟩
  · obtain rfl := List.eq_nil_of_length_eq_zero h0
    exact ⟨none, 0, rfl, fun i e he => by simp at he⟩
  · exact ⟨_, cap, rfl, fun i e he => ⟨g, rfl, owns_range h he⟩⟩

set_option maxRecDepth 100000 in
set_option maxHeartbeats 1000000 in
theorem kept_any {out rs : Value} {es ts : List El} {ds : List Rd} {w : World} (hA : UniRow out (es ++ ts) w) (hB : UniRow rs es w) (hE : ∀ (i : Nat) e, es[i]? = some e → ∃ d, RuleV e d w) (hl : (es ++ ts).length ≤ 268435456) :
    Calls Try.prog 17 #[out, rs] w fun en w' => en = .returned (.bool true) ∧ Below w.heap.size w w' := by
  obtain ⟨ao, cap, rfl, hA⟩ := hA
  obtain ⟨bo, cap2, rfl, hB⟩ := hB
  obtain ⟨n, hn⟩ : ∃ n, es.length = n := ⟨_, rfl⟩
  obtain ⟨m, hm⟩ : ∃ m, (es ++ ts).length = m := ⟨_, rfl⟩
  have hnm : n ≤ m := by rw [← hm, ← hn, List.length_append]; omega
  have hmn : ¬ (m < n) := by omega
  have hmn2 : decide (m < n) = false := decide_eq_false hmn
  have HN : Hid (es.length = n) := hn
  have HA : Hid (∀ (i : Nat) e, (es ++ ts)[i]? = some e → ∃ g, ao = some ⟨g, 0, none⟩ ∧ w.rangeAt g (i * 6) e.cells) := hA
  have HB : Hid (∀ (i : Nat) e, es[i]? = some e → ∃ g, bo = some ⟨g, 0, none⟩ ∧ w.rangeAt g (i * 6) e.cells) := hB
  have HE : Hid (∀ (i : Nat) e, es[i]? = some e → ∃ d, RuleV e d w) := hE
  rw [hm] at hl ⊢
  rw [hn]
  clear hn hm hA hB hE
  go_enter Try.func17, Try.ntmps17
  go_wp2
  go_loopw [5] (fun i wr => ∃ k : Nat, k ≤ n ∧ i = .int .i64 k ∧ Below w.heap.size w wr) (fun i _ => n - (intOf i).toNat)
  case atStart => exact ⟨0, Nat.zero_le _, rfl, Below.refl _ _⟩
  case round =>
    obtain ⟨k, hk, rfl, hb⟩ := hrel
    by_cases hkn : k < n
    · have hkl : k < es.length := by have := HN.out; omega
      obtain ⟨e, he⟩ : ∃ e, es[k]? = some e := ⟨es[k], List.getElem?_eq_getElem _⟩
      obtain ⟨g, rfl, hr⟩ := HB.out k e he
      obtain ⟨q, rfl, hq⟩ := HA.out k e (by rw [List.getElem?_append_left hkl]; exact he)
      obtain ⟨d, hv⟩ := HE.out k e he
      have R := sameRule_any (hv.below hb)
      have HR : Hid (∀ w', Below wr.heap.size wr w' → RuleV e d w') := fun w' h => (hv.below hb).below h
      obtain ⟨c0, c1, c2, c3, c4, an⟩ := e
      obtain ⟨e0, e1, e2, e3, e4, e5⟩ := range6 (rangeAt_below hr hb)
      obtain ⟨f0, f1, f2, f3, f4, f5⟩ := range6 (rangeAt_below hq hb)
      clear he hr hq hkl hv R
      have hkm : k < m := by omega
      have hi0 : (0 : Int) ≤ k := by omega
      have hi1 : (k : Int) < m := by omega
      have hi2 : (k : Int) < n := by omega
      go_wp2_with fail
      go_region_held3 (fun w' => Below wr.heap.size wr w' ∧ w'.cell? ⟨g, k * 6, none⟩ = some c0 ∧ w'.cell? ⟨g, k * 6 + 1, none⟩ = some c1 ∧ w'.cell? ⟨g, k * 6 + 2, none⟩ = some c2 ∧ w'.cell? ⟨g, k * 6 + 3, none⟩ = some c3 ∧ w'.cell? ⟨g, k * 6 + 4, none⟩ = some c4 ∧ w'.cell? ⟨g, k * 6 + 5, none⟩ = some (.bool an)
          ∧ w'.cell? ⟨q, k * 6, none⟩ = some c0 ∧ w'.cell? ⟨q, k * 6 + 1, none⟩ = some c1 ∧ w'.cell? ⟨q, k * 6 + 2, none⟩ = some c2 ∧ w'.cell? ⟨q, k * 6 + 3, none⟩ = some c3 ∧ w'.cell? ⟨q, k * 6 + 4, none⟩ = some c4 ∧ w'.cell? ⟨q, k * 6 + 5, none⟩ = some (.bool an))
        (first
          | exact ⟨below_drew _ _ 1, e0, e1, e2, e3, e4, e5, f0, f1, f2, f3, f4, f5⟩
          | exact ⟨by assumption, cell_below' e0 (by assumption), cell_below' e1 (by assumption), cell_below' e2 (by assumption), cell_below' e3 (by assumption), cell_below' e4 (by assumption), cell_below' e5 (by assumption), cell_below' f0 (by assumption), cell_below' f1 (by assumption), cell_below' f2 (by assumption), cell_below' f3 (by assumption), cell_below' f4 (by assumption), cell_below' f5 (by assumption)⟩)
        (first
          | (go_at_call 44; refine (sameRule_any (HR.out _ (And.left ‹Below wr.heap.size wr _ ∧ _›))).mono ?_; rintro en w2 ⟨rfl, hb2⟩; have hb3 : Below wr.heap.size wr w2 := (below_drew _ wr 1).trans hb2))
      go_wp2
      go_roundw
      case rel => exact ⟨k + 1, by omega, by go_num, hb.trans (hb3.mono hb.size)⟩
      case measure => simp [intOf]; omega
    · go_wp2
      go_ret
      exact ⟨rfl, hb⟩
end Go.Proofs.Qxb6606073a.W
