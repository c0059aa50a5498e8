/-
  Qxb6605562a: THE PLAIN LAYER: what the law's quoting does to a list of bytes, and what unquoting reads back. No Go in sight.
-/
import Derived.Lib.Strings
namespace Go.Proofs.Qxb6605562a.Plain

/-- A byte that quoting puts a backslash before: a double quote or a backslash. -/
def special (c : UInt8) : Bool := c == 34 || c == 92

/-- One byte, quoted. -/
def esc1 (c : UInt8) : List UInt8 := if special c then [92, c] else [c]

/-- A text, quoted (without the quotes around it). -/
def esc (l : List UInt8) : List UInt8 := l.flatMap esc1

theorem esc_nil : esc [] = [] := rfl
theorem esc_append (a b : List UInt8) : esc (a ++ b) = esc a ++ esc b := by simp [esc, List.flatMap_append]
theorem esc_one (c : UInt8) : esc [c] = esc1 c := by simp [esc]
theorem esc_cons (c : UInt8) (l : List UInt8) : esc (c :: l) = esc1 c ++ esc l := by simp [esc]
theorem esc1_yes {c : UInt8} (h : special c = true) : esc1 c = [92, c] := by simp [esc1, h]
theorem esc1_no {c : UInt8} (h : special c = false) : esc1 c = [c] := by simp [esc1, h]

theorem esc1_len (c : UInt8) : 1 ≤ (esc1 c).length ∧ (esc1 c).length ≤ 2 := by
  unfold esc1; split <;> simp

theorem esc_len (l : List UInt8) : l.length ≤ (esc l).length ∧ (esc l).length ≤ 2 * l.length := by
  induction l with
  | nil => simp [esc]
  | cons c t ih =>
    rw [esc_cons, List.length_append, List.length_cons]
    have := esc1_len c
    omega

theorem take_snoc (l : List UInt8) (k : Nat) (c : UInt8) (h : l[k]? = some c) : l.take (k + 1) = l.take k ++ [c] := by
  rw [List.take_add_one, h]; rfl

theorem drop_cons (l : List UInt8) (k : Nat) (c : UInt8) (h : l[k]? = some c) : l.drop k = c :: l.drop (k + 1) := by
  obtain ⟨hk, rfl⟩ := List.getElem?_eq_some_iff.1 h
  exact List.drop_eq_getElem_cons hk

/-- A text in which no byte wants a backslash is quoted as it stands. -/
theorem esc_id (l : List UInt8) (h : ∀ c ∈ esc l, special c = false) : esc l = l := by
  induction l with
  | nil => rfl
  | cons c t ih =>
    rw [esc_cons] at h ⊢
    cases hc : special c with
    | true =>
      have := h 92 (by rw [esc1_yes hc]; simp)
      exact absurd this (by decide)
    | false =>
      rw [esc1_no hc] at h ⊢
      rw [ih (fun d hd => h d (by simp [hd]))]
      rfl

/-- The quoted text around place k: what lies behind what has been read. -/
theorem esc_split (l : List UInt8) (k : Nat) (c : UInt8) (h : l[k]? = some c) : esc l = esc (l.take k) ++ (esc1 c ++ esc (l.drop (k + 1))) := by
  rw [← esc_cons, ← drop_cons l k c h, ← esc_append, List.take_append_drop]

theorem esc_take_succ (l : List UInt8) (k : Nat) (c : UInt8) (h : l[k]? = some c) : esc (l.take (k + 1)) = esc (l.take k) ++ esc1 c := by
  rw [take_snoc l k c h, esc_append, esc_one]

theorem at_yes (l : List UInt8) (k : Nat) (c : UInt8) (h : l[k]? = some c) (hc : special c = true) :
    (esc l)[(esc (l.take k)).length]? = some 92 ∧ (esc l)[(esc (l.take k)).length + 1]? = some c ∧ (esc (l.take (k + 1))).length = (esc (l.take k)).length + 2 := by
  refine ⟨?_, ?_, ?_⟩
  · rw [esc_split l k c h, esc1_yes hc]; simp
  · rw [esc_split l k c h, esc1_yes hc]; simp
  · rw [esc_take_succ l k c h, esc1_yes hc]; simp

theorem at_no (l : List UInt8) (k : Nat) (c : UInt8) (h : l[k]? = some c) (hc : special c = false) :
    (esc l)[(esc (l.take k)).length]? = some c ∧ (esc (l.take (k + 1))).length = (esc (l.take k)).length + 1 := by
  refine ⟨?_, ?_⟩
  · rw [esc_split l k c h, esc1_no hc]; simp
  · rw [esc_take_succ l k c h, esc1_no hc]; simp

theorem special_cases {c : UInt8} (h : special c = true) : c = 34 ∨ c = 92 := by
  simpa [special] using h
theorem special_not {c : UInt8} (h : special c = false) : c ≠ 34 ∧ c ≠ 92 := by
  simpa [special] using h

end Go.Proofs.Qxb6605562a.Plain
