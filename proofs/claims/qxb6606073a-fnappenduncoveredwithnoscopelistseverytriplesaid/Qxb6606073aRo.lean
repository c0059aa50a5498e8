import Derived.Test.Qxb6606073aRc
import Derived.Test.Qxb6606073aClone
import Derived.Deep.RegionHeld3
namespace Go.Proofs.Qxb6606073a.W
open Go.RowKit
set_option linter.unusedVariables false
set_option linter.unusedSimpArgs false

/-- A slice of strings of the call's own. -/
def OwnS (ns : Value) (ss : List ByteArray) (w : World) : Prop :=
  (ns = .slice none 0 0 ∧ ss = []) ∨ ∃ (g cap : Nat) (cur : Array Value), ns = .slice (some ⟨g, 0, none⟩) ss.length cap ∧ ss.length ≤ cap ∧ cap ≤ maxLen ∧ w.heap[g]? = some (.cells cur 9 (0, 0)) ∧
    (∀ i, i < ss.length → cur[i]? = some (.string (ss.getD i ByteArray.empty))) ∧ ∀ s ∈ ss, s.size ≤ maxLen

theorem OwnS.str {ns : Value} {ss : List ByteArray} {w : World} (h : OwnS ns ss w) : StrsAt ns ss w := by
  rcases h with h | ⟨g, cap, cur, h1, h2, h3, h4, h5, h6⟩
  · exact .inl h
  · refine .inr ⟨⟨g, 0, none⟩, cap, h1, h2, h3, fun i hi => ?_, h6⟩
    rw [Addr.add_mid, Nat.zero_add]
    unfold World.cell?
    simp only [h4]
    simpa using h5 i hi

/-- All blocks of cells but those of type T stay as they are. -/
def Keep (T : TypeId) (w w' : World) : Prop := ∀ (g : Nat) cur t fr, t ≠ T → w.heap[g]? = some (.cells cur t fr) → w'.heap[g]? = some (.cells cur t fr)

theorem Keep.refl (T : TypeId) (w : World) : Keep T w w := fun _ _ _ _ _ h => h
theorem Keep.trans {T : TypeId} {a b c : World} (h : Keep T a b) (k : Keep T b c) : Keep T a c := fun g cur t fr ht hg => k g cur t fr ht (h g cur t fr ht hg)
theorem Keep.of {T : TypeId} {w w' : World} (h : Below w.heap.size w w') : Keep T w w' := fun g cur t fr _ hg => (h.block g (Array.getElem?_eq_some_iff.1 hg).1).trans hg

theorem OwnS.keep {T : TypeId} {ns : Value} {ss : List ByteArray} {w w' : World} (h : OwnS ns ss w) (k : Keep T w w') (hT : (9 : TypeId) ≠ T) : OwnS ns ss w' := by
  rcases h with h | ⟨g, cap, cur, h1, h2, h3, h4, h5, h6⟩
  · exact .inl h
  · exact .inr ⟨g, cap, cur, h1, h2, h3, k g cur 9 (0, 0) hT h4, h5, h6⟩

theorem OwnS.below {ns : Value} {ss : List ByteArray} {w w' : World} (h : OwnS ns ss w) (hb : Below w.heap.size w w') : OwnS ns ss w' := h.keep (Keep.of (T := 0) hb) (by decide)

structure OwnE (e : El) (d : Rd) (w : World) : Prop where
  s0 : OwnS e.c0 d.v w
  s1 : OwnS e.c1 d.g w
  s2 : OwnS e.c2 d.r w
  s3 : OwnS e.c3 d.n w
  s4 : OwnS e.c4 d.b w
  an : e.an = d.an

theorem OwnE.rule {e : El} {d : Rd} {w : World} (h : OwnE e d w) : RuleV e d w := ⟨h.s0.str, h.s1.str, h.s2.str, h.s3.str, h.s4.str, h.an⟩
theorem OwnE.keep {T : TypeId} {e : El} {d : Rd} {w w' : World} (h : OwnE e d w) (k : Keep T w w') (hT : (9 : TypeId) ≠ T) : OwnE e d w' :=
  ⟨h.s0.keep k hT, h.s1.keep k hT, h.s2.keep k hT, h.s3.keep k hT, h.s4.keep k hT, h.an⟩

def CopiedO (ss : List ByteArray) (w : World) (e : Ending) (w' : World) : Prop := ∃ ao i cap, e = .returned (.slice ao i cap) ∧ OwnS (.slice ao i cap) ss w' ∧ Below w.heap.size w w'

set_option maxRecDepth 100000 in
set_option maxHeartbeats 1000000 in
theorem cloneS_any {ns : Value} {ss : List ByteArray} {w : World} (h : StrsAt ns ss w) (hl : ss.length ≤ 65536) :
    Calls Try.prog 37 #[ns] w fun e w' => CopiedO ss w e w' := by
  rcases h with ⟨rfl, rfl⟩ | ⟨a, cap, rfl, h2, h3, h4, h5⟩
  · have hnil := Lib.run_eql_slice_nil_nil (P := Try.prog) w (t := 23) 0 0 Try.underlying23
    go_enter Try.func37, Try.ntmps37
    go_wp2
    go_ret
    exact ⟨none, 0, 0, rfl, .inl ⟨rfl, rfl⟩, Below.refl _ _⟩
  · obtain ⟨n, hn⟩ : ∃ n, ss.length = n := ⟨_, rfl⟩
    have H4 : Hid (∀ i, i < ss.length → w.cell? (a.add i) = some (.string (ss.getD i ByteArray.empty))) := h4
    have H5 : Hid (∀ s ∈ ss, s.size ≤ maxLen) := h5
    have HN : Hid (ss.length = n) := hn
    rw [hn] at hl ⊢
    clear hn h4 h5 h2
    have hnil := Lib.run_eql_slice_some_nil (P := Try.prog) w (t := 23) a n cap Try.underlying23
    obtain ⟨i0, hi, hz0, hz1, hz2⟩ := info_parts info9
    go_enter Try.func37, Try.ntmps37
    go_wp2_with (at_make; refine wpList_make_full _ rfl _ _ 23 rfl w.heap.size 9 i0 (.string ⟨#[]⟩) 1 Try.underlying23 hi hz0 hz1 _ _ _ _ n rfl rfl rfl rfl (by rw [hz2]; omega) (by unfold maxLen; omega) (Nat.le_refl _) ?_
                 intro w0 hown0 hgrow0)
    have hb0 : Below w.heap.size w w0 := (Below.refl _ _).grown hgrow0 (Nat.le_refl _) (fun k h => by cases h)
    have hR0 : Row w.heap.size n 0 ss w0 := by
      rcases hown0.2 with ⟨e1, _⟩ | ⟨g', cap', cur, e1, _, e2, _, _, e5, _⟩
      · cases e1
      · cases e1; exact ⟨cur, e2, by simpa using e5, fun i hi => absurd hi (Nat.not_lt_zero i)⟩
    clear hown0 hgrow0
    go_loopw [4] (fun i wr => ∃ k : Nat, k ≤ n ∧ i = .int .i64 k ∧ Row w.heap.size n k ss wr ∧ Below w.heap.size w wr) (fun i _ => n - (intOf i).toNat)
    case atStart => exact ⟨0, Nat.zero_le _, rfl, hR0, hb0⟩
    case round =>
      obtain ⟨k, hk, rfl, hR, hb⟩ := hrel
      by_cases hkn : k < n
      · have hkl : k < ss.length := by have := HN.out; omega
        have hc := cell_below' (H4.out k hkl) hb
        obtain ⟨s, hs⟩ : ∃ s, ss.getD k ByteArray.empty = s := ⟨_, rfl⟩
        obtain ⟨y, hy⟩ := hR.cell hkn
        have hf := hR.frozen k
        have hstep := hR.step hkn s hs
        rw [hs] at hc
        clear hs
        go_wp2
        go_roundw
        case rel => exact ⟨k + 1, by omega, by go_num, hstep, hb.setCell (Nat.le_refl _) _⟩
        case measure => simp [intOf]; omega
      · go_wp2
        go_ret
        obtain rfl : k = n := by omega
        refine ⟨some ⟨w.heap.size, 0, none⟩, k, k, rfl, ?_, hb⟩
        obtain ⟨cur, e1, e2, e3⟩ := hR
        exact .inr ⟨w.heap.size, k, cur, by rw [HN.out], by have := HN.out; omega, by unfold maxLen; omega, e1, fun i hi => e3 i (by have := HN.out; omega), H5.out⟩

/-- In cloneRule: the box stands. -/
abbrev BoxAt (h : Nat) (c0 c1 c2 c3 c4 : Value) (an : Bool) (w w' : World) : Prop :=
  Below h w w' ∧ w'.cell? ⟨h, 0, none⟩ = some c0 ∧ w'.cell? ⟨h, 1, none⟩ = some c1 ∧ w'.cell? ⟨h, 2, none⟩ = some c2 ∧ w'.cell? ⟨h, 3, none⟩ = some c3 ∧ w'.cell? ⟨h, 4, none⟩ = some c4 ∧ w'.cell? ⟨h, 5, none⟩ = some (.bool an)

theorem BoxAt.below {c0 c1 c2 c3 c4 : Value} {an : Bool} {w w1 w2 : World} (h : BoxAt w.heap.size c0 c1 c2 c3 c4 an w w1) (hb : Below w1.heap.size w1 w2) : BoxAt w.heap.size c0 c1 c2 c3 c4 an w w2 := by
  obtain ⟨a, b0, b1, b2, b3, b4, b5⟩ := h
  exact ⟨a.trans (hb.mono a.size), cell_below' b0 hb, cell_below' b1 hb, cell_below' b2 hb, cell_below' b3 hb, cell_below' b4 hb, cell_below' b5 hb⟩
end Go.Proofs.Qxb6606073a.W
