import Derived.Test.Qxb6605763aDoorZz
namespace Go.Proofs.Qxb6605763aDoor.W
open Go.RowKit
open Plain
set_option linter.unusedVariables false

/-- Some bool comes back, of which Q holds; the world stands. -/
def RB (Q : Bool → Prop) (w : World) (en : Ending) (w' : World) : Prop := ∃ r : Bool, en = .returned (.bool r) ∧ w = w' ∧ Q r

set_option maxHeartbeats 800000 in
theorem zzBytes5 (a b c d e f g h : ByteArray) (w : World) (h1 : a.size ≤ maxLen) (h2 : b.size ≤ maxLen) (h3 : c.size ≤ maxLen) (h4 : d.size ≤ maxLen) (h5 : e.size ≤ maxLen) (h6 : f.size ≤ maxLen) (h7 : g.size ≤ maxLen) (h8 : h.size ≤ maxLen) :
    Calls Tryd.prog 5 #[.string a, .string b, .string c, .string d, .string e, .string f, .string g, .string h] w fun en w' => ∃ r : Bool, en = .returned (.bool r) ∧ w = w' ∧
      (r = true → a.size ≤ 1048576 ∧ b.size ≤ 1048576 ∧ c.size ≤ 1048576 ∧ d.size ≤ 1048576 ∧ e.size ≤ 1048576 ∧ f.size ≤ 1048576 ∧ g.size ≤ 1048576 ∧ h.size ≤ 1048576) := by
  unfold maxLen at *
  go_enter Tryd.func5, Tryd.ntmps5
  go_wp2
  all_goals (go_ret; exact ⟨_, rfl, rfl, fun hr => by first | exact absurd hr (by decide) | omega⟩)

set_option maxHeartbeats 800000 in
theorem zzBytes12 (a b c d e f g h i : ByteArray) (w : World) (h1 : a.size ≤ maxLen) (h2 : b.size ≤ maxLen) (h3 : c.size ≤ maxLen) (h4 : d.size ≤ maxLen) (h5 : e.size ≤ maxLen) (h6 : f.size ≤ maxLen) (h7 : g.size ≤ maxLen) (h8 : h.size ≤ maxLen) (h9 : i.size ≤ maxLen) :
    Calls Tryd.prog 12 #[.string a, .string b, .string c, .string d, .string e, .string f, .string g, .string h, .string i] w fun en w' => ∃ r : Bool, en = .returned (.bool r) ∧ w = w' ∧
      (r = true → a.size ≤ 1048576 ∧ b.size ≤ 1048576 ∧ c.size ≤ 1048576 ∧ d.size ≤ 1048576 ∧ e.size ≤ 1048576 ∧ f.size ≤ 1048576 ∧ g.size ≤ 1048576 ∧ h.size ≤ 1048576 ∧ i.size ≤ 1048576) := by
  unfold maxLen at *
  go_enter Tryd.func12, Tryd.ntmps12
  go_wp2
  all_goals (go_ret; exact ⟨_, rfl, rfl, fun hr => by first | exact absurd hr (by decide) | omega⟩)

theorem lawOver_any (a b c d e f g h i : ByteArray) (w : World) (h1 : a.size ≤ 1048576) (h2 : b.size ≤ 1048576) (h3 : c.size ≤ 1048576) (h4 : d.size ≤ 1048576) (h5 : e.size ≤ 1048576) (h6 : f.size ≤ 1048576) (h7 : g.size ≤ 1048576) (h8 : h.size ≤ 1048576) (h9 : i.size ≤ 1048576) :
    Calls Tryd.prog 6 #[.string a, .string b, .string c, .string d, .string e, .string f, .string g, .string h, .string i] w fun en w' => ∃ r : Bool, en = .returned (.bool r) ∧ w = w' := by
  go_enter Tryd.func6, Tryd.ntmps6
  go_wp2
  all_goals (go_ret; exact ⟨_, rfl, rfl⟩)

set_option maxHeartbeats 800000 in
theorem scheme_any (s : ByteArray) (w : World) (hs : s.size ≤ 1048576) :
    Calls Tryd.prog 7 #[.string s] w fun en w' => RB (fun r => r = true → ∀ c ∈ s.data.toList, c ≠ 64) w en w' := by
  go_enter Tryd.func7, Tryd.ntmps7
  go_wp2
  go_loop [3, 4] (fun i _ => ∃ k : Nat, k ≤ s.size ∧ i = .int .i64 k ∧ Hid (∀ c ∈ s.data.toList.take k, c ≠ 64)) (fun i _ => s.size - (intOf i).toNat)
  case atStart => exact ⟨0, Nat.zero_le _, rfl, fun c hc => by simp at hc⟩
  case round =>
    obtain ⟨k, hk, rfl, H⟩ := hrel
    by_cases hkt : k < s.size
    · obtain ⟨c, hc⟩ : ∃ c, s[k] = c := ⟨_, rfl⟩
      have hcl : s.data.toList[k]? = some c := by rw [← hc]; exact Lib.data_getElem? s k hkt
      have ht := take_snoc _ k c hcl
      by_cases h64 : c = 64
      · subst h64
        clear ht hcl
        go_wp2
        all_goals (go_ret; exact ⟨_, rfl, rfl, fun hr => by cases hr⟩)
      · have H2 : Hid (∀ d ∈ s.data.toList.take (k + 1), d ≠ 64) := by
          intro d hd
          rw [ht, List.mem_append, List.mem_singleton] at hd
          rcases hd with hd | rfl
          · exact H.out d hd
          · exact h64
        clear ht hcl h64
        go_wp2
        all_goals first
          | (go_round
             case rel => exact ⟨k + 1, by omega, by go_num, H2⟩
             case measure => simp [intOf]; omega)
          | (go_ret; exact ⟨_, rfl, rfl, fun hr => by cases hr⟩)
    · go_wp2
      go_ret
      refine ⟨_, rfl, rfl, fun _ c hc => H.out c ?_⟩
      rw [List.take_of_length_le (by rw [← Lib.size_eq]; omega)]
      simpa using hc

set_option maxHeartbeats 800000 in
/-- lawIndex, where what is looked for stands behind P and nowhere further to the left. -/
theorem index_any (s sub : ByteArray) (P R : List UInt8) (w : World) (hs : s.size ≤ 100000000) (hd : s.data.toList = P ++ (sub.data.toList ++ R))
    (hno : ∀ i, i < P.length → (s.data.toList.drop i).take sub.size ≠ sub.data.toList) :
    Calls Tryd.prog 11 #[.string s, .string sub] w fun en w' => en = .returned (.int .i64 P.length) ∧ w = w' := by
  have hsz : P.length + sub.size ≤ s.size := by rw [Lib.size_eq s, hd, Lib.size_eq sub]; simp
  have HN : Hid (∀ i, i < P.length → (s.extract i (i + sub.size)).toList ≠ sub.toList) := fun i hi e => hno i hi (by
    rw [Lib.toList_data, Lib.toList_data, Lib.extract_data] at e
    rw [show i + sub.size - i = sub.size by omega] at e
    exact e)
  have HY : Hid ((s.extract P.length (P.length + sub.size)).toList = sub.toList) := by
    show _ = _
    rw [Lib.toList_data, Lib.toList_data, Lib.extract_data, hd, show P.length + sub.size - P.length = sub.size by omega]
    rw [List.drop_left, Lib.size_eq sub, List.take_left]
  generalize P.length = p at *
  clear hd hno
  go_enter Tryd.func11, Tryd.ntmps11
  go_wp2
  go_loop [5] (fun i => ∃ k : Nat, k ≤ p ∧ i = .int .i64 k) (fun i => p - (intOf i).toNat)
  case atStart => exact ⟨0, Nat.zero_le _, rfl⟩
  case round =>
    obtain ⟨k, hk, rfl⟩ := hrel
    by_cases hkt : k < p
    · have hne : ((s.extract k (k + sub.size)).toList == sub.toList) = false := beq_eq_false_iff_ne.2 (HN.out k hkt)
      go_wp2
      go_round
      case rel => exact ⟨k + 1, by omega, by go_num⟩
      case measure => simp [intOf]; omega
    · obtain rfl : k = p := by omega
      have heq : ((s.extract k (k + sub.size)).toList == sub.toList) = true := beq_iff_eq.2 HY.out
      go_wp2
      go_ret
      exact ⟨rfl, rfl⟩

end Go.Proofs.Qxb6605763aDoor.W
