import Derived.Test.Qxb6606073aRc
namespace Go.Proofs.Qxb6606073a.W
open Go.RowKit
set_option linter.unusedVariables false
set_option linter.unusedSimpArgs false

set_option maxRecDepth 100000 in
set_option maxHeartbeats 1000000 in
/-- eqStrs of two slices that read alike. -/
theorem eqStrs_any {na nb : Value} {ss : List ByteArray} {w : World} (ha : StrsAt na ss w) (hb : StrsAt nb ss w) :
    Calls Try.prog 19 #[na, nb] w fun e w' => e = .returned (.bool true) ∧ ∃ m, w' = w.drewN m := by
  obtain ⟨ao, cap, rfl, h2, h3, h4, h5⟩ := StrsAt.uni ha
  obtain ⟨bo, cap2, rfl, g2, g3, g4, g5⟩ := StrsAt.uni hb
  clear ha hb
  obtain ⟨n, hn⟩ : ∃ n, ss.length = n := ⟨_, rfl⟩
  have H4 : Hid (∀ i, i < ss.length → ∃ a, ao = some a ∧ w.cell? (a.add i) = some (.string (ss.getD i ByteArray.empty))) := h4
  have G4 : Hid (∀ i, i < ss.length → ∃ a, bo = some a ∧ w.cell? (a.add i) = some (.string (ss.getD i ByteArray.empty))) := g4
  have HN : Hid (ss.length = n) := hn
  rw [hn] at h2 g2 ⊢
  clear hn h4 h5 g4 g5
  unfold maxLen at h3 g3
  go_enter Try.func19, Try.ntmps19
  go_wp2
  go_loopw [5] (fun i wr => ∃ (k m : Nat), k ≤ n ∧ i = .int .i64 k ∧ wr = w.drewN m) (fun i _ => n - (intOf i).toNat)
  case atStart => exact ⟨0, 0, Nat.zero_le _, rfl, rfl⟩
  case round =>
    obtain ⟨k, m, hk, rfl, rfl⟩ := hrel
    by_cases hkn : k < n
    · obtain ⟨a, rfl, hc⟩ := H4.out k (by have := HN.out; omega)
      obtain ⟨b, rfl, hd⟩ := G4.out k (by have := HN.out; omega)
      obtain ⟨s, hs⟩ : ∃ s, ss.getD k ByteArray.empty = s := ⟨_, rfl⟩
      rw [hs] at hc hd
      clear hs
      have hx : (s.toList == s.toList) = true := by simp
      go_wp2_with fail
      go_quiet (fail)
      go_wp2
      go_roundw
      case rel => exact ⟨k + 1, _, by omega, by go_num, rfl⟩
      case measure => simp [intOf]; omega
    · go_wp2
      go_ret
      exact ⟨rfl, _, rfl⟩
end Go.Proofs.Qxb6606073a.W
