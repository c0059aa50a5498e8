import Derived.Test.Qxb6606073aShelf
import Derived.Test.Qxb6606073aHeld
import Derived.Lib.IndexLaws
import Derived.Lib.IndexBytes
namespace Go.Proofs.Qxb6606073a.W
open Go.RowKit
set_option linter.unusedVariables false
set_option linter.unusedSimpArgs false

theorem below_drewN (B : Nat) (w : World) (q : Nat) : Below B w (w.drewN q) := ⟨rfl, rfl, rfl, Nat.le_refl _, fun _ _ => rfl⟩

theorem ib47 (s : ByteArray) (w : World) : Calls Try.prog 60 #[.string s, .int .u8 47] w fun e w' => e = .returned (.int .i64 (Lib.indexByte s.data.toList 47)) ∧ w = w' :=
  (Try.stringslite_IndexByte s 47 w).mono fun e w' ⟨he, hw⟩ => ⟨he, hw.symm⟩

set_option maxRecDepth 100000 in
theorem sidx_any (s : ByteArray) (w : World) : Calls Try.prog 59 #[.string s, .string ⟨#[47]⟩] w fun e w' => e = .returned (.int .i64 (Lib.indexByte s.data.toList 47)) ∧ w = w' := by
  have R := ib47 s w
  have h0 : ([47] == s.toList) = true → Lib.indexByte s.data.toList 47 = 0 := fun e => by
    rw [beq_iff_eq, Lib.toList_data] at e
    rw [← e]; rfl
  generalize Lib.indexByte s.data.toList 47 = n at R h0 ⊢
  have h1 : (ByteArray.mk #[47]).size = 1 := rfl
  cases hq : ([47] == s.toList) with
  | true =>
    obtain rfl := h0 hq
    clear h0
    go_enter Try.func59, Try.ntmps59
    go_wp2
    go_ret
    exact ⟨rfl, rfl⟩
  | false =>
    clear h0
    go_enter Try.func59, Try.ntmps59
    go_wp2_with (go_at_call 60; refine R.mono ?_; rintro e w' ⟨rfl, rfl⟩)
    go_ret
    exact ⟨rfl, rfl⟩

/-- What stands behind the first '/'. -/
def subOf (s : ByteArray) (n : Nat) : ByteArray := s.extract (n + 1) s.size

set_option maxRecDepth 100000 in
theorem scut_no (s : ByteArray) (w : World) (h : Lib.indexByte s.data.toList 47 = -1) :
    Calls Try.prog 58 #[.string s, .string ⟨#[47]⟩] w fun e w' => e = .returned (.tuple #[.string s, .string ⟨#[]⟩, .bool false]) ∧ Below w.heap.size w w' := by
  have R := sidx_any s w
  rw [h] at R
  go_enter Try.func58, Try.ntmps58
  go_wp2_with (go_at_call 59; refine R.mono ?_; rintro e w' ⟨rfl, rfl⟩)
  go_ret3
  exact ⟨rfl, Below.refl _ _⟩

set_option maxRecDepth 100000 in
theorem scut_at (s : ByteArray) (n : Nat) (w : World) (h : Lib.indexByte s.data.toList 47 = n) (hn : n < s.size) (hs : s.size ≤ 4096) :
    Calls Try.prog 58 #[.string s, .string ⟨#[47]⟩] w fun e w' => ∃ a, e = .returned (.tuple #[.string a, .string (subOf s n), .bool true]) ∧ Below w.heap.size w w' := by
  have R := sidx_any s w
  rw [h] at R
  clear h
  have h1 : (ByteArray.mk #[47]).size = 1 := rfl
  have h2 : (n : Int) + 1 ≤ (s.size : Int) := by omega
  go_enter Try.func58, Try.ntmps58
  go_wp2_with (go_at_call 59; refine R.mono ?_; rintro e w' ⟨rfl, rfl⟩)
  go_quiet (fail)
  go_wp2
  go_ret3
  exact ⟨_, rfl, below_drewN _ _ _⟩

theorem cut_no (s : ByteArray) (w : World) (h : Lib.indexByte s.data.toList 47 = -1) :
    Calls Try.prog 56 #[.string s, .string ⟨#[47]⟩] w fun e w' => e = .returned (.tuple #[.string s, .string ⟨#[]⟩, .bool false]) ∧ Below w.heap.size w w' := by
  have R := scut_no s w h
  clear h
  go_enter Try.func56, Try.ntmps56
  go_wp2_with (go_at_call 58; refine R.mono ?_; rintro e w' ⟨rfl, hb⟩)
  go_ret3
  exact ⟨rfl, hb⟩

theorem cut_at (s : ByteArray) (n : Nat) (w : World) (h : Lib.indexByte s.data.toList 47 = n) (hn : n < s.size) (hs : s.size ≤ 4096) :
    Calls Try.prog 56 #[.string s, .string ⟨#[47]⟩] w fun e w' => ∃ a, e = .returned (.tuple #[.string a, .string (subOf s n), .bool true]) ∧ Below w.heap.size w w' := by
  have R := scut_at s n w h hn hs
  clear h
  generalize subOf s n = t at R ⊢
  go_enter Try.func56, Try.ntmps56
  go_wp2_with (go_at_call 58; refine R.mono ?_; rintro e w' ⟨a, rfl, hb⟩)
  go_ret3
  exact ⟨_, rfl, hb⟩
end Go.Proofs.Qxb6606073a.W
