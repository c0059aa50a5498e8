/-
  Qxb6605562a: what one step of 'for _, r := range s' passes over: the bytes of a rune that does not begin with an ASCII byte are all beyond ASCII. No Go text in sight.
-/
import Derived.Laws.RangeAny
namespace Go.Proofs.Qxb6605562a.Utf

theorem get!_eq (s : ByteArray) (k : Nat) (h : k < s.size) : s.get! k = s[k] := by
  have := get_at s k h
  simpa using this

/-- The bytes that one step takes: each lies in the string and is beyond ASCII. -/
theorem decode_wide (s : ByteArray) (pos : Nat) (h : pos < s.size) (ha : 128 ≤ (s[pos]'h).toNat) (j : Nat) (hj : j < (Utf8.decode s pos).2) :
    pos + j < s.size ∧ 128 ≤ (s.get! (pos + j)).toNat := by
  have hn : ¬ (s[pos]'h).toNat < 128 := by omega
  have h0 : 128 ≤ (s.get! (pos + 0)).toNat := by rw [get_at s pos h]; exact ha
  revert hj
  simp only [Utf8.decode, get_at s pos h, hn, if_false]
  split
  · rename_i c1
    simp only [Bool.and_eq_true, decide_eq_true_eq, beq_iff_eq] at c1
    split
    · intro hj
      have : j = 0 ∨ j = 1 := by omega
      rcases this with rfl | rfl
      · exact ⟨by omega, h0⟩
      · exact ⟨c1.2.1, by omega⟩
    · intro hj
      obtain rfl : j = 0 := by omega
      exact ⟨by omega, h0⟩
  · split
    · rename_i c2
      simp only [Bool.and_eq_true, decide_eq_true_eq, beq_iff_eq] at c2
      split
      · intro hj
        have : j = 0 ∨ j = 1 ∨ j = 2 := by omega
        rcases this with rfl | rfl | rfl
        · exact ⟨by omega, h0⟩
        · exact ⟨c2.1.2.1, by omega⟩
        · exact ⟨c2.2.1, by omega⟩
      · intro hj
        obtain rfl : j = 0 := by omega
        exact ⟨by omega, h0⟩
    · split
      · rename_i c3
        simp only [Bool.and_eq_true, decide_eq_true_eq, beq_iff_eq] at c3
        split
        · intro hj
          have : j = 0 ∨ j = 1 ∨ j = 2 ∨ j = 3 := by omega
          rcases this with rfl | rfl | rfl | rfl
          · exact ⟨by omega, h0⟩
          · exact ⟨c3.1.1.2.1, by omega⟩
          · exact ⟨c3.1.2.1, by omega⟩
          · exact ⟨c3.2.1, by omega⟩
        · intro hj
          obtain rfl : j = 0 := by omega
          exact ⟨by omega, h0⟩
      · intro hj
        obtain rfl : j = 0 := by omega
        exact ⟨by omega, h0⟩

/-- Up to place i no byte of s is one of 34, 92. -/
def Free (s : ByteArray) (i : Nat) : Prop := ∀ j (h : j < s.size), j < i → s[j] ≠ 34 ∧ s[j] ≠ 92

theorem Free.zero (s : ByteArray) : Free s 0 := fun j _ hj => absurd hj (Nat.not_lt_zero j)

theorem Free.succ {s : ByteArray} {i : Nat} (h : Free s i) (hi : i < s.size) (h1 : s[i] ≠ 34) (h2 : s[i] ≠ 92) : Free s (i + 1) := by
  intro j hj hji
  by_cases e : j = i
  · subst e; exact ⟨h1, h2⟩
  · exact h j hj (by omega)

theorem Free.wide {s : ByteArray} {i : Nat} (h : Free s i) (hi : i < s.size) (ha : 128 ≤ (s[i]'hi).toNat) : Free s (i + (Utf8.decode s i).2) := by
  intro j hj hji
  by_cases e : j < i
  · exact h j hj e
  · obtain ⟨k, rfl⟩ : ∃ k, j = i + k := ⟨j - i, by omega⟩
    have hw := (decode_wide s i hi ha k (by omega)).2
    rw [get!_eq s (i + k) hj] at hw
    constructor
    · intro e; rw [e] at hw; exact absurd hw (by decide)
    · intro e; rw [e] at hw; exact absurd hw (by decide)

theorem width_le (s : ByteArray) (pos : Nat) (h : pos < s.size) (ha : 128 ≤ (s[pos]'h).toNat) : pos + (Utf8.decode s pos).2 ≤ s.size := by
  have h1 := (decode_high s pos h ha).2
  have := (decode_wide s pos h ha ((Utf8.decode s pos).2 - 1) (by omega)).1
  omega

theorem Free.all {s : ByteArray} (h : Free s s.size) : ∀ c ∈ s.data.toList, c ≠ 34 ∧ c ≠ 92 := by
  intro c hc
  obtain ⟨j, hj, rfl⟩ := List.getElem_of_mem hc
  have hjs : j < s.size := by simpa using hj
  exact h j hjs hjs

end Go.Proofs.Qxb6605562a.Utf
