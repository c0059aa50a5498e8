import Derived.Test.Qxb6606000aFmtRows
import Derived.Test.Qxb6606000aFmtPlain
import Derived.Test.Qxb6606000aFmtShelf
import Derived.WalkKit
import Derived.WalkSpells
import Derived.Lib.IndexBytes
import Derived.Laws.IdiomStrings
namespace Go.Proofs.Qxb6606000aFmt.W
open Go.RowKit
open Plain
set_option linter.unusedVariables false
set_option linter.unusedSimpArgs false

/-- A Bool that says something, in a world that is as it was. -/
def RB (p : Bool → Prop) (w : World) (e : Ending) (w' : World) : Prop := ∃ r : Bool, e = .returned (.bool r) ∧ w = w' ∧ p r

theorem zz_any (a b c : ByteArray) (w : World) (h1 : a.size ≤ maxLen) (h2 : b.size ≤ maxLen) (h3 : c.size ≤ maxLen) :
    Calls Tryf.prog 19 #[.string a, .string b, .string c] w fun e w' => RB (fun r => r = true → a.size ≤ 1048576 ∧ b.size ≤ 1048576 ∧ c.size ≤ 1048576) w e w' := by
  unfold maxLen at h1 h2 h3
  go_enter Tryf.func19, Tryf.ntmps19
  go_wp2
  all_goals (go_ret; exact ⟨_, rfl, rfl, fun hr => by first | exact absurd hr (by decide) | omega⟩)

theorem has_any (s : ByteArray) (b : UInt8) (w : World) (hs : s.size ≤ 1048576) :
    Calls Tryf.prog 33 #[.string s, .int .u8 b.toNat] w fun e w' => RB (fun r => r = false → ∀ c ∈ s.data.toList, c ≠ b) w e w' := by
  go_enter Tryf.func33, Tryf.ntmps33
  go_wp2
  go_loop [5] (fun i => ∃ k : Nat, k ≤ s.size ∧ i = .int .i64 k ∧ Hid (∀ c ∈ s.data.toList.take k, c ≠ b)) (fun i => s.size - (intOf i).toNat)
  case atStart => exact ⟨0, Nat.zero_le _, rfl, fun c hc => by simp at hc⟩
  case round =>
    obtain ⟨k, hk, rfl, H⟩ := hrel
    by_cases hkt : k < s.size
    · obtain ⟨c, hc⟩ : ∃ c, s[k] = c := ⟨_, rfl⟩
      have hcl : s.data.toList[k]? = some c := by rw [← hc]; exact Lib.data_getElem? s k hkt
      have ht := take_snoc _ k c hcl
      by_cases h64 : c = b
      · subst h64
        clear ht hcl
        go_wp2
        all_goals (go_ret; exact ⟨_, rfl, rfl, fun hr => by cases hr⟩)
      · have H2 : Hid (∀ d ∈ s.data.toList.take (k + 1), d ≠ b) := by
          intro d hd
          rw [ht, List.mem_append, List.mem_singleton] at hd
          rcases hd with hd | rfl
          · exact H.out d hd
          · exact h64
        have hne : ((c.toNat : Int) == (b.toNat : Int)) = false := beq_eq_false_iff_ne.2 (fun e => h64 (UInt8.toNat_inj.1 (by omega)))
        clear ht hcl h64
        go_wp2
        go_round
        case rel => exact ⟨k + 1, by omega, by go_num, H2⟩
        case measure => simp [intOf]; omega
    · go_wp2
      go_ret
      refine ⟨_, rfl, rfl, fun _ c hc => H.out c ?_⟩
      rw [List.take_of_length_le (by rw [← Lib.size_eq]; omega)]
      simpa using hc

theorem plain_any (s : ByteArray) (w : World) (hs : s.size ≤ 1048576) :
    Calls Tryf.prog 9 #[.string s] w fun e w' => RB (fun r => r = true → plain s.data.toList) w e w' := by
  go_enter Tryf.func9, Tryf.ntmps9
  go_wp2_with fail
  go_at_call 33
  refine (has_any s 32 w hs).mono ?_
  rintro e w' ⟨r, rfl, rfl, H⟩
  have H1 : Hid (r = false → ∀ c ∈ s.data.toList, c ≠ 32) := H
  clear H
  cases r with
  | true =>
    go_wp2
    go_ret
    exact ⟨_, rfl, rfl, fun hr => by cases hr⟩
  | false =>
    go_wp2_with fail
    go_at_call 33
    refine (has_any s 10 w hs).mono ?_
    rintro e w' ⟨r, rfl, rfl, H⟩
    have H2 : Hid (r = false → ∀ c ∈ s.data.toList, c ≠ 10) := H
    clear H
    cases r with
    | true =>
      go_wp2
      go_ret
      exact ⟨_, rfl, rfl, fun hr => by cases hr⟩
    | false =>
      go_wp2
      go_ret
      exact ⟨_, rfl, rfl, fun _ => ⟨by simpa [Hid] using H1, by simpa [Hid] using H2⟩⟩

/-- strings.IndexByte where the byte is not met. -/
theorem ib_no (s : ByteArray) (c : Int) (w : World) (h : ∀ d ∈ s.data.toList, d ≠ c.toNat.toUInt8) :
    Calls Tryf.prog 57 #[.string s, .int .u8 c] w fun e w' => e = .returned (.int .i64 (-1)) ∧ w = w' := by
  refine (Tryf.strings_IndexByte s c w).mono fun e w' ⟨he, hw⟩ => ⟨?_, hw.symm⟩
  rw [he, indexByte_no _ _ h]

/-- wire.plain of a plain string. -/
theorem wplain_any (s : ByteArray) (w : World) (h : plain s.data.toList) :
    Calls Tryf.prog 45 #[.string s] w fun e w' => e = .returned (.bool true) ∧ w = w' := by
  have H1 : Hid (∀ d ∈ s.data.toList, d ≠ (32 : Int).toNat.toUInt8) := h.1
  have H2 : Hid (∀ d ∈ s.data.toList, d ≠ (10 : Int).toNat.toUInt8) := h.2
  clear h
  go_enter Tryf.func45, Tryf.ntmps45
  go_wp2_with fail
  go_at_call 57
  refine (ib_no s 32 w H1.out).mono ?_
  rintro e w' ⟨rfl, rfl⟩
  go_wp2_with fail
  go_at_call 57
  refine (ib_no s 10 w H2.out).mono ?_
  rintro e w' ⟨rfl, rfl⟩
  go_wp2
  go_ret
  exact ⟨rfl, rfl⟩

end Go.Proofs.Qxb6606000aFmt.W
