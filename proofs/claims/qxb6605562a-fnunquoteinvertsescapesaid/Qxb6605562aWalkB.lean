import Derived.Test.Qxb6605562aRows
import Derived.Test.Qxb6605562aPlain
import Derived.WalkKit
import Derived.WalkSpells
namespace Go.Proofs.Qxb6605562a.fnUnquoteInvertsEscape
open Go.RowKit

/-- zzBytes: the bound on the length. -/
theorem zz_any (s : ByteArray) (w : World) (hs : s.size ≤ maxLen) :
    Calls Try.prog 20 #[.string s] w fun e w' => e = .returned (.bool (decide (s.size ≤ 1048576))) ∧ w = w' := by
  unfold maxLen at hs
  by_cases h : s.size ≤ 1048576
  · have hd : decide (s.size ≤ 1048576) = true := decide_eq_true h
    rw [hd]
    go_enter Try.func20, Try.ntmps20
    go_wp2
    go_ret
    exact ⟨rfl, rfl⟩
  · have hd : decide (s.size ≤ 1048576) = false := decide_eq_false h
    rw [hd]
    go_enter Try.func20, Try.ntmps20
    go_wp2
    go_ret
    exact ⟨rfl, rfl⟩

end Go.Proofs.Qxb6605562a.fnUnquoteInvertsEscape
