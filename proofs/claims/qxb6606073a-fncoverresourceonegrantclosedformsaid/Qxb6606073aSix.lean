import Derived.Test.Qxb6606073aLaw
namespace Go.Proofs.Qxb6606073a.W
open Go.RowKit
set_option linter.unusedVariables false
set_option linter.unusedSimpArgs false

/-- The closed table, in plain words. -/
def tabB (rv rg rr : ByteArray) (ra : Bool) (ss : List ByteArray) (v g r : ByteArray) (an : Bool) (nm : ByteArray) (nd : Bool) (neg : Bool) (sub : ByteArray) : Bool :=
  (same rv v || same rv star) && (same rg g || same rg star) && (ss.isEmpty || nd && mem nm ss) &&
    (same rr star || same rr r && (ra == an) || same rr r && ra && !an && neg || !ra && !an && !neg && same rr sub)

theorem tab_no (rv rg rr : ByteArray) (ra : Bool) (ss : List ByteArray) (v g r : ByteArray) (an : Bool) (nm : ByteArray) (nd : Bool) (sub : ByteArray) (h : Lib.indexByte r.data.toList 47 = -1) :
    resB (fun x a => covB rv rg rr ra ss v g x a nm nd) r an = tabB rv rg rr ra ss v g r an nm nd true sub := by
  unfold resB tabB covB
  rw [if_pos h]
  dsimp only
  cases same rv v <;> cases same rv star <;> cases same rg g <;> cases same rg star <;> cases same rr r <;> cases same rr star <;> cases ra <;> cases an <;> cases (ss.isEmpty || nd && mem nm ss) <;> rfl

theorem tab_at (rv rg rr : ByteArray) (ra : Bool) (ss : List ByteArray) (v g r : ByteArray) (an : Bool) (nm : ByteArray) (nd : Bool) (n : Nat) (h : Lib.indexByte r.data.toList 47 = n) :
    resB (fun x a => covB rv rg rr ra ss v g x a nm nd) r an = tabB rv rg rr ra ss v g r an nm nd false (⟨#[42, 47]⟩ ++ subOf r n) := by
  have e : (Lib.indexByte r.data.toList 47).toNat = n := by rw [h]; rfl
  unfold resB tabB covB
  rw [if_neg (by rw [h]; omega), e]
  dsimp only
  generalize (⟨#[42, 47]⟩ ++ subOf r n : ByteArray) = u
  cases same rv v <;> cases same rv star <;> cases same rg g <;> cases same rg star <;> cases same rr r <;> cases same rr star <;> cases same rr u <;> cases ra <;> cases an <;> cases (ss.isEmpty || nd && mem nm ss) <;> rfl
end Go.Proofs.Qxb6606073a.W
