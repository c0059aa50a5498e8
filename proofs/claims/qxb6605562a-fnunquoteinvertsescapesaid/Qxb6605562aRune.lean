import Derived.Test.Qxb6605562aRows
import Derived.Test.Qxb6605562aUtf
import Derived.WalkKit
import Derived.WalkSpells
import Derived.Deep.QuietTactic
import Derived.BigQuiet
import Derived.Laws.RangeAny
import Derived.WalkMore
import Derived.WalkSmall
import Derived.Test.Qxb6605562aShelf
namespace Go.Proofs.Qxb6605562a.fnUnquoteInvertsEscape
open Go.RowKit

set_option maxHeartbeats 400000 in
set_option maxRecDepth 100000 in
theorem rune_error (w : World) :
    Calls Try.prog 36 #[.string ⟨#[34, 92]⟩, .int .i32 65533] w fun e w' => e = .returned (.int .i64 (-1)) ∧ Below w.heap.size w w' := by
  have h0 := fun ty => run_next_ascii (P := Try.prog) w ⟨#[34, 92]⟩ 0 ty (by decide) (by decide)
  have h1 := fun ty => run_next_ascii (P := Try.prog) w ⟨#[34, 92]⟩ 1 ty (by decide) (by decide)
  have h2 := fun ty => run_next_end (P := Try.prog) w ⟨#[34, 92]⟩ 2 ty (by decide)
  go_enter Try.func36, Try.ntmps36
  go_wp2_with fail
  go_loopw [5, 6] (fun _ _ wr => ∃ i : Nat, i ≤ 2 ∧ wr = w.iter ⟨#[34, 92]⟩ i) (fun _ _ wr => 2 - wr.iterPos w.heap.size)
  case atStart => exact ⟨0, by omega, rfl⟩
  case round =>
    obtain ⟨i, hi, rfl⟩ := hrel
    have : i = 0 ∨ i = 1 ∨ i = 2 := by omega
    rcases this with rfl | rfl | rfl
    · clear h1 h2
      go_wp2
      go_roundw
      case rel => exact ⟨1, by omega, rfl⟩
      case measure => simp
    · clear h0 h2
      go_wp2
      go_roundw
      case rel => exact ⟨2, by omega, rfl⟩
      case measure => simp
    · clear h0 h1
      go_wp2
      go_ret
      exact ⟨rfl, (Below.refl _ _).alloc (Nat.le_refl _) _⟩

theorem valid_high (r : Int) (w : World) : ∀ v, Utf8.valid r = v → 
    Calls Try.prog 43 #[.int .i32 r] w fun e w' => e = .returned (.bool v) ∧ w = w' := by
  intro v hv
  subst hv
  go_enter Try.func43, Try.ntmps43
  go_wp2
  all_goals (go_ret; refine ⟨?_, rfl⟩; unfold Utf8.valid)
  all_goals first | (rw [eq_comm]; simp; omega) | (simp; omega)

set_option maxHeartbeats 400000 in
set_option maxRecDepth 100000 in
theorem rune_bad (r : Int) (w : World) (h1 : 128 ≤ r) (h2 : r ≤ 2147483647) (hr : r ≠ 65533) (hv : Utf8.valid r = false) :
    Calls Try.prog 36 #[.string ⟨#[34, 92]⟩, .int .i32 r] w fun e w' => e = .returned (.int .i64 (-1)) ∧ Below w.heap.size w w' := by
  have hb : (r == 65533) = false := beq_eq_false_iff_ne.2 hr
  clear hr
  go_enter Try.func36, Try.ntmps36
  go_wp2_with (go_at_call 43; refine (valid_high r _ false hv).mono ?_; rintro e w' ⟨rfl, rfl⟩)
  go_ret
  exact ⟨rfl, Below.refl _ _⟩

theorem slice_end (w : World) : (Instr.slice 9 (.string ⟨#[34, 92]⟩) (some (.int .i64 2)) none none).run Try.prog w = .ok (.string ⟨#[]⟩) w := by kernel_rfl

set_option maxHeartbeats 400000 in
set_option maxRecDepth 100000 in
theorem rune_good (r : Int) (w : World) (h1 : 128 ≤ r) (h2 : r ≤ 2147483647) (hr : r ≠ 65533) (hv : Utf8.valid r = true) :
    Calls Try.prog 36 #[.string ⟨#[34, 92]⟩, .int .i32 r] w fun e w' => e = .returned (.int .i64 (-1)) ∧ Below w.heap.size w w' := by
  have hb : (r == 65533) = false := beq_eq_false_iff_ne.2 hr
  clear hr
  go_enter Try.func36, Try.ntmps36
  go_wp2_with (go_at_call 43; refine (valid_high r _ true hv).mono ?_; rintro e w' ⟨rfl, rfl⟩)
  obtain ⟨e1, e2, e3⟩ := encode_facts r hv h1
  have hcv : ∀ w : World, (convert 21 9 (.int .i32 r)).run Try.prog w = .ok (.string (Utf8.encode r)) w := fun w => run_convert_int_string w 21 9 .i32 r (by rw [Try.underlying21]; rfl) Try.underlying9
  obtain ⟨E, hE⟩ : ∃ E, E = Utf8.encode r := ⟨_, rfl⟩
  rw [← hE] at e1 e2 e3 hcv
  clear hE
  by_cases hs : E.size = 2
  · have hlt : 1 < E.size := by omega
    have hne : (((({ data := #[34, 92] } : ByteArray)[1]'(by decide)).toNat : Int) != (E[1].toNat : Int)) = true := by
      have h3 := e3 (by omega)
      have : E.size - 1 = 1 := by omega
      simp only [this] at h3
      rw [bne_iff_ne]
      show (92 : Int) ≠ _
      omega
    clear e3 e1 e2
    have hsl := slice_end
    have hw2 : IntKind.i64.wrap 2 = 2 := by decide
    go_step3
    go_wp2_with fail
    refine wp_loop_rounds 1 ?_
    rw [rounds_succ]
    go_wp2_with fail
    go_step3
    go_wp2_with fail
    go_quiet (fail)
    go_wp2_with fail
    have hB1 : Below w.heap.size w (w.drewN nq) := below_drewN (Below.refl _ _) nq
    generalize w.drewN nq = w1 at hB1 ⊢
    go_quiet ((go_at_call 42; exact Calls.quiet_of_same (Try.strings_IndexByte _ _ _)))
    go_wp2_with fail
    rw [Exit.noGoto_ret]
    go_wp2_with fail
    rw [Exit.noGoto_ret]
    go_ret
    exact ⟨rfl, below_drewN hB1 _⟩
  · have hs3 : 3 ≤ E.size := by omega
    clear hs e3
    go_step3
    go_wp2_with fail
    refine wp_loop_rounds 1 ?_
    rw [rounds_succ]
    go_wp2_with fail
    rw [Exit.noGoto_ret]
    go_ret
    exact ⟨rfl, Below.refl _ _⟩
/-- IndexRune of a rune beyond ASCII in the two bytes that quoting minds: it is not there. -/
theorem rune_high (r : Int) (w : World) (h1 : 128 ≤ r) (h2 : r ≤ 2147483647) :
    Calls Try.prog 36 #[.string ⟨#[34, 92]⟩, .int .i32 r] w fun e w' => e = .returned (.int .i64 (-1)) ∧ Below w.heap.size w w' := by
  by_cases hr : r = 65533
  · subst hr; exact rune_error w
  · cases hv : Utf8.valid r with
    | false => exact rune_bad r w h1 h2 hr hv
    | true => exact rune_good r w h1 h2 hr hv

end Go.Proofs.Qxb6605562a.fnUnquoteInvertsEscape
