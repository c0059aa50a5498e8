import Derived.Test.Qxb6606073aBounds
namespace Go.Proofs.Qxb6606073a.W
open Go.RowKit
set_option linter.unusedVariables false
set_option linter.unusedSimpArgs false

set_option maxRecDepth 100000 in
set_option maxHeartbeats 4000000 in
theorem zz_any (rv rg rr : ByteArray) (ra : Bool) {ns : Value} {ss : List ByteArray} (v g r : ByteArray) (an : Bool) (nm : ByteArray) (nd : Bool) {w : World}
    (h0 : rv.size ≤ maxLen) (h1 : rg.size ≤ maxLen) (h2 : rr.size ≤ maxLen) (h3 : v.size ≤ maxLen) (h4 : g.size ≤ maxLen) (h5 : r.size ≤ maxLen) (h6 : nm.size ≤ maxLen) (hS : StrsAt ns ss w) :
    Calls Try.prog 35 #[.string rv, .string rg, .string rr, .bool ra, ns, .string v, .string g, .string r, .bool an, .string nm, .bool nd] w fun e w' => RB (fun b => b = true → ss.length ≤ 1048576) w e w' := by
  unfold maxLen at h0 h1 h2 h3 h4 h5 h6
  rcases hS with ⟨rfl, rfl⟩ | ⟨a, cap, rfl, g2, g3, g4, g5⟩
  · go_enter Try.func35, Try.ntmps35
    go_wp2
    all_goals first
      | (go_ret; exact ⟨_, rfl, rfl, fun hr => by cases hr⟩)
      | skip
    refine wp_loop_rounds 1 ?_
    rw [rounds_succ]
    go_wp2
    all_goals (go_ret; exact ⟨_, rfl, rfl, fun hr => by simp⟩)
  · obtain ⟨n, hn⟩ : ∃ n, ss.length = n := ⟨_, rfl⟩
    have H4 : Hid (∀ i, i < ss.length → w.cell? (a.add i) = some (.string (ss.getD i ByteArray.empty))) := g4
    have H5 : Hid (∀ s ∈ ss, s.size ≤ maxLen) := g5
    have HN : Hid (ss.length = n) := hn
    rw [hn] at g2 ⊢
    have hnc : n ≤ 9223372036854775807 := Nat.le_trans g2 g3
    clear hn g4 g5 g2
    go_enter Try.func35, Try.ntmps35
    go_wp2
    all_goals first
      | (go_ret; exact ⟨_, rfl, rfl, fun hr => by cases hr⟩)
      | skip
    go_loop [23, 24] (fun q i => ∃ (k : Nat) (m : Int), k ≤ n ∧ i = .int .i64 k ∧ q = .int .i64 m ∧ 0 ≤ m ∧ m ≤ 1048576) (fun _ i => n - (intOf i).toNat)
    case atStart => exact ⟨0, _, Nat.zero_le _, rfl, rfl, by omega, by omega⟩
    case round =>
      obtain ⟨k, m, hk, rfl, rfl, hm0, hm1⟩ := hrel
      by_cases hkn : k < n
      · have hc := H4.out k (by have := HN.out; omega)
        have hz := getD_size H5.out k (by have := HN.out; omega)
        unfold maxLen at hz
        obtain ⟨s, hs⟩ : ∃ s, ss.getD k ByteArray.empty = s := ⟨_, rfl⟩
        rw [hs] at hc hz
        clear hs
        go_wp2
        all_goals first
          | (go_ret; exact ⟨_, rfl, rfl, fun hr => by cases hr⟩)
          | (go_round
             case rel => exact ⟨k + 1, _, by omega, by go_num, rfl, by omega, by omega⟩
             case measure => simp [intOf]; omega)
      · go_wp2
        all_goals (go_ret; exact ⟨_, rfl, rfl, fun hr => by first | (exact absurd hr (by decide)) | omega⟩)

set_option maxRecDepth 100000 in
theorem slash_any (s : ByteArray) (w : World) (n : Int) (hs : s.size ≤ 4096) (h : Lib.indexByte s.data.toList 47 = n)
    (hc : (n = -1 ∧ ∀ k (hk : k < s.size), s[k] ≠ 47) ∨ ∃ m : Nat, n = m ∧ m < s.size ∧ (∀ k (hk : k < s.size), k < m → s[k] ≠ 47) ∧ ∀ hm : m < s.size, s[m] = 47) :
    Calls Try.prog 39 #[.string s] w fun e w' => e = .returned (.int .i64 n) ∧ w = w' := by
  rcases hc with ⟨rfl, h1⟩ | ⟨m, rfl, hm, h1, h2⟩
  · have HN : Hid (∀ k (hk : k < s.size), s[k] ≠ 47) := h1
    clear h1 h
    go_enter Try.func39, Try.ntmps39
    go_wp2
    go_loop [3] (fun i => ∃ k : Nat, k ≤ s.size ∧ i = .int .i64 k) (fun i => s.size - (intOf i).toNat)
    case atStart => exact ⟨0, Nat.zero_le _, rfl⟩
    case round =>
      obtain ⟨k, hk, rfl⟩ := hrel
      by_cases hkr : k < s.size
      · obtain ⟨c, hc⟩ : ∃ c, s[k] = c := ⟨_, rfl⟩
        have hne : ((c.toNat : Int) == 47) = false := beq_eq_false_iff_ne.2 (fun e => HN.out k hkr (by rw [hc]; exact UInt8.toNat_inj.1 (by simpa using Int.ofNat.inj e)))
        go_wp2
        go_round
        case rel => exact ⟨k + 1, by omega, by go_num⟩
        case measure => simp [intOf]; omega
      · go_wp2
        go_ret
        exact ⟨rfl, rfl⟩
  · have HN : Hid (∀ k (hk : k < s.size), k < m → s[k] ≠ 47) := h1
    clear h1 h
    go_enter Try.func39, Try.ntmps39
    go_wp2
    go_loop [3] (fun i => ∃ k : Nat, k ≤ m ∧ i = .int .i64 k) (fun i => s.size - (intOf i).toNat)
    case atStart => exact ⟨0, Nat.zero_le _, rfl⟩
    case round =>
      obtain ⟨k, hk, rfl⟩ := hrel
      have hkr : k < s.size := by omega
      by_cases hkm : k < m
      · obtain ⟨c, hc⟩ : ∃ c, s[k] = c := ⟨_, rfl⟩
        have hne : ((c.toNat : Int) == 47) = false := beq_eq_false_iff_ne.2 (fun e => HN.out k hkr hkm (by rw [hc]; exact UInt8.toNat_inj.1 (by simpa using Int.ofNat.inj e)))
        go_wp2
        go_round
        case rel => exact ⟨k + 1, by omega, by go_num⟩
        case measure => simp [intOf]; omega
      · obtain rfl : k = m := by omega
        have hc : s[k] = 47 := h2 hkr
        go_wp2
        go_ret
        exact ⟨rfl, rfl⟩
end Go.Proofs.Qxb6606073a.W
