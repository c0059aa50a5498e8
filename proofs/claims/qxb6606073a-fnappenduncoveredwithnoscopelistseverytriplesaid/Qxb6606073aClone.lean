import Derived.Test.Qxb6606073aBounds
import Derived.Lib.BufferMore
import Derived.Deep.MidRow
namespace Go.Proofs.Qxb6606073a.W
open Go.RowKit
set_option linter.unusedVariables false
set_option linter.unusedSimpArgs false

theorem info9 : (Try.prog.info? 9).map (fun i => (i.zero, i.size, i.bytes)) = some (some (.string ⟨#[]⟩), 1, 16) := by kernel_rfl

/-- A row of n strings whose first k are those of ss. -/
def Row (g n k : Nat) (ss : List ByteArray) (w : World) : Prop :=
  ∃ cur : Array Value, w.heap[g]? = some (.cells cur 9 (0, 0)) ∧ cur.size = n ∧ ∀ i, i < k → cur[i]? = some (.string (ss.getD i ByteArray.empty))

theorem Row.cell {g n k : Nat} {ss : List ByteArray} {w : World} (h : Row g n k ss w) (hk : k < n) : ∃ x, w.cell? ⟨g, k, none⟩ = some x := by
  obtain ⟨cur, h1, h2, _⟩ := h
  unfold World.cell?
  simp only [h1]
  exact ⟨cur[k]'(by omega), by simp⟩

theorem Row.frozen {g n k : Nat} {ss : List ByteArray} {w : World} (h : Row g n k ss w) (i : Nat) : w.frozen? ⟨g, i, none⟩ = false := by
  obtain ⟨cur, h1, _⟩ := h
  unfold World.frozen?
  simp only [h1]
  simp

theorem Row.step {g n k : Nat} {ss : List ByteArray} {w : World} (h : Row g n k ss w) (hk : k < n) (s : ByteArray) (hs : ss.getD k ByteArray.empty = s) : Row g n (k + 1) ss (w.setCell ⟨g, k, none⟩ (.string s)) := by
  obtain ⟨cur, h1, h2, h3⟩ := h
  refine ⟨cur.setIfInBounds k (.string s), ?_, by simpa using h2, ?_⟩
  · unfold World.setCell
    simp only [Array.getElem?_modify, if_pos, h1]
    rfl
  · intro i hi
    rw [Array.getElem?_setIfInBounds]
    by_cases e : k = i
    · subst e; rw [if_pos rfl, if_pos (by omega), hs]
    · rw [if_neg e]; exact h3 i (by omega)

def Copied (n : Nat) (ss : List ByteArray) (w : World) (e : Ending) (w' : World) : Prop := ∃ ns, e = .returned ns ∧ StrsAt ns ss w' ∧ Below w.heap.size w w' ∧ ((ns = .slice none 0 0 ∧ ss = []) ∨ ∃ g, ns = .slice (some ⟨g, 0, none⟩) n n)

set_option maxRecDepth 100000 in
set_option maxHeartbeats 1000000 in
theorem clone_any {ns : Value} {ss : List ByteArray} {w : World} (h : StrsAt ns ss w) (hl : ss.length ≤ 1048576) :
    Calls Try.prog 37 #[ns] w fun e w' => Copied ss.length ss w e w' := by
  rcases h with ⟨rfl, rfl⟩ | ⟨a, cap, rfl, h2, h3, h4, h5⟩
  · have hnil := Lib.run_eql_slice_nil_nil (P := Try.prog) w (t := 23) 0 0 Try.underlying23
    go_enter Try.func37, Try.ntmps37
    go_wp2
    go_ret
    exact ⟨_, rfl, .inl ⟨rfl, rfl⟩, Below.refl _ _, .inl ⟨rfl, rfl⟩⟩
  · obtain ⟨n, hn⟩ : ∃ n, ss.length = n := ⟨_, rfl⟩
    have H4 : Hid (∀ i, i < ss.length → w.cell? (a.add i) = some (.string (ss.getD i ByteArray.empty))) := h4
    have H5 : Hid (∀ s ∈ ss, s.size ≤ maxLen) := h5
    have HN : Hid (ss.length = n) := hn
    rw [hn] at hl ⊢
    clear hn h4 h5 h2
    have hnil := Lib.run_eql_slice_some_nil (P := Try.prog) w (t := 23) a n cap Try.underlying23
    obtain ⟨i0, hi, hz0, hz1, hz2⟩ := info_parts info9
    go_enter Try.func37, Try.ntmps37
    go_wp2_with (at_make; refine wpList_make_full _ rfl _ _ 23 rfl w.heap.size 9 i0 (.string ⟨#[]⟩) 1 Try.underlying23 hi hz0 hz1 _ _ _ _ n rfl rfl rfl rfl (by rw [hz2]; omega) (by unfold maxLen; omega) (Nat.le_refl _) ?_
                 intro w0 hown0 hgrow0)
    have hb0 : Below w.heap.size w w0 := (Below.refl _ _).grown hgrow0 (Nat.le_refl _) (fun k h => by cases h)
    have hR0 : Row w.heap.size n 0 ss w0 := by
      rcases hown0.2 with ⟨e1, _⟩ | ⟨g', cap', cur, e1, _, e2, _, _, e5, _⟩
      · cases e1
      · cases e1; exact ⟨cur, e2, by simpa using e5, fun i hi => absurd hi (Nat.not_lt_zero i)⟩
    clear hown0 hgrow0
    go_loopw [4] (fun i wr => ∃ k : Nat, k ≤ n ∧ i = .int .i64 k ∧ Row w.heap.size n k ss wr ∧ Below w.heap.size w wr) (fun i _ => n - (intOf i).toNat)
    case atStart => exact ⟨0, Nat.zero_le _, rfl, hR0, hb0⟩
    case round =>
      obtain ⟨k, hk, rfl, hR, hb⟩ := hrel
      by_cases hkn : k < n
      · have hkl : k < ss.length := by have := HN.out; omega
        have hc := cell_below' (H4.out k hkl) hb
        obtain ⟨s, hs⟩ : ∃ s, ss.getD k ByteArray.empty = s := ⟨_, rfl⟩
        obtain ⟨y, hy⟩ := hR.cell hkn
        have hf := hR.frozen k
        have hstep := hR.step hkn s hs
        rw [hs] at hc
        clear hs
        go_wp2
        go_roundw
        case rel => exact ⟨k + 1, by omega, by go_num, hstep, hb.setCell (Nat.le_refl _) _⟩
        case measure => simp [intOf]; omega
      · go_wp2
        go_ret
        obtain rfl : k = n := by omega
        refine ⟨_, rfl, ?_, hb, .inr ⟨_, rfl⟩⟩
        refine .inr ⟨⟨w.heap.size, 0, none⟩, k, by rw [HN.out]; rfl, by have := HN.out; omega, by unfold maxLen; omega, ?_, H5.out⟩
        intro i hi
        obtain ⟨cur, e1, e2, e3⟩ := hR
        rw [Addr.add_mid, Nat.zero_add]
        unfold World.cell?
        simp only [e1]
        have := e3 i (by have := HN.out; omega)
        simpa using this
end Go.Proofs.Qxb6606073a.W
