import Derived.Lib.IndexLaws
import Derived.Lib.Bytealg
namespace Go.Proofs.Qxb6606000aFmt.Plain

theorem take_snoc (l : List UInt8) (k : Nat) (c : UInt8) (h : l[k]? = some c) : l.take (k + 1) = l.take k ++ [c] := by
  rw [List.take_add_one, h]; rfl

/-- Neither a space nor a line feed. -/
def plain (l : List UInt8) : Prop := (∀ c ∈ l, c ≠ 32) ∧ ∀ c ∈ l, c ≠ 10

theorem indexByte_no : ∀ (l : List UInt8) (c : UInt8), (∀ d ∈ l, d ≠ c) → Lib.indexByte l c = -1
  | [], _, _ => rfl
  | d :: l, c, h => by
    have h1 : (d == c) = false := beq_eq_false_iff_ne.2 (h d (by simp))
    have h2 := indexByte_no l c (fun e he => h e (by simp [he]))
    unfold Lib.indexByte
    rw [h1, h2]; rfl

/-- ' outcome=' -/
def key : List UInt8 := [32, 111, 117, 116, 99, 111, 109, 101, 61]
/-- What stands ahead of ' outcome='. -/
def fore (k x : List UInt8) : List UInt8 := k ++ (if x = [] then [] else [32, 116, 120, 61] ++ x)
/-- The one line. -/
def line (k x o : List UInt8) : List UInt8 := fore k x ++ key ++ o

theorem fore_ten {k x : List UInt8} (hk : plain k) (hx : plain x) : ∀ c ∈ fore k x, c ≠ 10 := by
  intro c hc
  unfold fore at hc
  rw [List.mem_append] at hc
  rcases hc with hc | hc
  · exact hk.2 c hc
  · split at hc
    · cases hc
    · rw [List.mem_append] at hc
      rcases hc with hc | hc
      · have : ∀ d ∈ ([32, 116, 120, 61] : List UInt8), d ≠ 10 := by decide
        exact this c hc
      · exact hx.2 c hc

theorem line_ten {k x o : List UInt8} (hk : plain k) (hx : plain x) (ho : plain o) : ∀ c ∈ line k x o, c ≠ 10 := by
  intro c hc
  unfold line at hc
  rw [List.mem_append, List.mem_append] at hc
  rcases hc with (hc | hc) | hc
  · exact fore_ten hk hx c hc
  · have : ∀ d ∈ key, d ≠ 10 := by decide
    exact this c hc
  · exact ho.2 c hc

/-- A space in 'fore' is followed by 't'. -/
theorem fore_space {k x : List UInt8} (hk : plain k) (hx : plain x) (i : Nat) (h : (fore k x)[i]? = some 32) : (fore k x)[i + 1]? = some 116 := by
  unfold fore at h ⊢
  by_cases hi : i < k.length
  · rw [List.getElem?_append_left hi] at h
    exact absurd rfl (hk.1 32 (List.mem_of_getElem? h))
  · rw [List.getElem?_append_right (by omega)] at h ⊢
    split at h
    · cases h
    · rename_i hx0
      rw [if_neg hx0, show i + 1 - k.length = (i - k.length) + 1 by omega]
      rcases hj : i - k.length with _ | j
      · rfl
      · rw [hj] at h
        exfalso
        rcases j with _ | _ | _ | j
        · simp at h
        · simp at h
        · simp at h
        · rw [List.getElem?_append_right (by simp)] at h
          exact absurd rfl (hx.1 32 (List.mem_of_getElem? h))

/-- To the left of ' outcome=' the key is nowhere met: at each place one of its bytes differs. -/
theorem no_match {k x o : List UInt8} (hk : plain k) (hx : plain x) (i : Nat) (hi : i < (fore k x).length) :
    ∃ j, j < 9 ∧ (line k x o)[i + j]? ≠ key[j]? := by
  by_cases h0 : (fore k x)[i]? = some 32
  · have h1 := fore_space hk hx i h0
    refine ⟨1, by omega, ?_⟩
    have hl : i + 1 < (fore k x).length := (List.getElem?_eq_some_iff.1 h1).1
    unfold line
    rw [List.append_assoc, List.getElem?_append_left hl, h1]
    decide
  · refine ⟨0, by omega, ?_⟩
    unfold line
    rw [List.append_assoc, List.getElem?_append_left (by omega)]
    exact h0

theorem at_match {k x o : List UInt8} (j : Nat) (hj : j < 9) : (line k x o)[(fore k x).length + j]? = key[j]? := by
  unfold line
  rw [List.append_assoc, List.getElem?_append_right (by omega), List.getElem?_append_left (by rw [show key.length = 9 from rfl]; omega)]
  congr 1; omega

theorem line_len (k x o : List UInt8) : (line k x o).length = (fore k x).length + 9 + o.length := by
  unfold line
  rw [List.length_append, List.length_append]; rfl

theorem line_tail {k x o : List UInt8} (j : Nat) : (line k x o)[(fore k x).length + 9 + j]? = o[j]? := by
  unfold line
  rw [List.getElem?_append_right (by rw [List.length_append, show key.length = 9 from rfl]; omega)]
  congr 1
  rw [List.length_append, show key.length = 9 from rfl]; omega

end Go.Proofs.Qxb6606000aFmt.Plain
