import Derived.Test.Qxb6606000aFmtLines
import Derived.DeepKeys
import Derived.Deep.MidRow
namespace Go.Proofs.Qxb6606000aFmt.W
open Go.RowKit Go.Lib
open Plain
set_option linter.unusedVariables false
set_option linter.unusedSimpArgs false
theorem textlen_nil (w : World) : Calls Tryf.prog 49 #[.slice none 0 0] w fun e w' => e = .returned (.int .i64 0) ∧ w = w' := by
  go_enter Tryf.func49, Tryf.ntmps49
  go_wp2
  go_loop [3, 8] (fun n i => n = .int .i64 0 ∧ i = .int .i64 0) (fun _ _ => 0)
  case atStart => exact ⟨rfl, rfl⟩
  case round =>
    obtain ⟨rfl, rfl⟩ := hrel
    go_wp2
    go_ret
    exact ⟨rfl, rfl⟩

theorem flag_no (L : Nat) (k : ByteArray) (w : World) : Calls Tryf.prog 34 #[.pointer (some ⟨L, 0, none⟩), .string k, .bool false] w fun e w' => e = .returned (.tuple #[]) ∧ w = w' := by
  go_enter Tryf.func34, Tryf.ntmps34
  go_wp2
  first
  | (go_end0; exact ⟨rfl, rfl⟩)
  | (refine bodyPost_ret (results_none rfl _ _ _) rfl ?_; exact ⟨rfl, rfl⟩)

theorem int_no (L : Nat) (k : ByteArray) (w : World) : Calls Tryf.prog 54 #[.pointer (some ⟨L, 0, none⟩), .string k, .int .i64 0] w fun e w' => e = .returned (.tuple #[]) ∧ w = w' := by
  go_enter Tryf.func54, Tryf.ntmps54
  go_wp2
  first
  | (go_end0; exact ⟨rfl, rfl⟩)
  | (refine bodyPost_ret (results_none rfl _ _ _) rfl ?_; exact ⟨rfl, rfl⟩)

set_option maxRecDepth 100000 in
theorem names_no (L : Nat) (k : ByteArray) (w : World) : Calls Tryf.prog 53 #[.pointer (some ⟨L, 0, none⟩), .string k, .slice none 0 0] w fun e w' => e = .returned (.tuple #[]) ∧ w = w' := by
  go_enter Tryf.func53, Tryf.ntmps53
  go_wp2
  first
  | (go_end0; exact ⟨rfl, rfl⟩)
  | (refine bodyPost_ret (results_none rfl _ _ _) rfl ?_; exact ⟨rfl, rfl⟩)

set_option maxRecDepth 100000 in
theorem text_nil (g cap : Nat) (w : World) : Calls Tryf.prog 50 #[.slice none 0 0, .slice (some ⟨g, 0, none⟩) 0 cap] w fun e w' => e = .returned (.tuple #[.slice (some ⟨g, 0, none⟩) 0 cap, .nilIface]) ∧ w = w' := by
  go_enter Tryf.func50, Tryf.ntmps50
  go_wp2
  go_loop [1, 13] (fun t i => t = .slice (some ⟨g, 0, none⟩) 0 cap ∧ i = .int .i64 0) (fun _ _ => 0)
  case atStart => exact ⟨rfl, rfl⟩
  case round =>
    obtain ⟨rfl, rfl⟩ := hrel
    go_wp2
    go_ret2
    exact ⟨rfl, rfl⟩

set_option maxRecDepth 100000 in
theorem eq32 (W : World) : (Op.equalIn 10000 45 (.agg #[.int .u8 0, .int .u8 0, .int .u8 0, .int .u8 0, .int .u8 0, .int .u8 0, .int .u8 0, .int .u8 0, .int .u8 0, .int .u8 0, .int .u8 0, .int .u8 0, .int .u8 0, .int .u8 0, .int .u8 0, .int .u8 0, .int .u8 0, .int .u8 0, .int .u8 0, .int .u8 0, .int .u8 0, .int .u8 0, .int .u8 0, .int .u8 0, .int .u8 0, .int .u8 0, .int .u8 0, .int .u8 0, .int .u8 0, .int .u8 0, .int .u8 0, .int .u8 0]) (.agg #[.int .u8 0, .int .u8 0, .int .u8 0, .int .u8 0, .int .u8 0, .int .u8 0, .int .u8 0, .int .u8 0, .int .u8 0, .int .u8 0, .int .u8 0, .int .u8 0, .int .u8 0, .int .u8 0, .int .u8 0, .int .u8 0, .int .u8 0, .int .u8 0, .int .u8 0, .int .u8 0, .int .u8 0, .int .u8 0, .int .u8 0, .int .u8 0, .int .u8 0, .int .u8 0, .int .u8 0, .int .u8 0, .int .u8 0, .int .u8 0, .int .u8 0, .int .u8 0])).run Tryf.prog W = .ok true W := by
  obtain ⟨L, hL⟩ : ∃ L, Tryf.prog.keyLits 10 45 (Value.agg #[.int .u8 0, .int .u8 0, .int .u8 0, .int .u8 0, .int .u8 0, .int .u8 0, .int .u8 0, .int .u8 0, .int .u8 0, .int .u8 0, .int .u8 0, .int .u8 0, .int .u8 0, .int .u8 0, .int .u8 0, .int .u8 0, .int .u8 0, .int .u8 0, .int .u8 0, .int .u8 0, .int .u8 0, .int .u8 0, .int .u8 0, .int .u8 0, .int .u8 0, .int .u8 0, .int .u8 0, .int .u8 0, .int .u8 0, .int .u8 0, .int .u8 0, .int .u8 0]).cells.toList = some L := Option.isSome_iff_exists.1 (by kernel_rfl)
  obtain ⟨r, hr, hiff⟩ := run_equalIn_deep (P := Tryf.prog) 9997 3 45 (by kernel_rfl) W 10 10 (.agg #[.int .u8 0, .int .u8 0, .int .u8 0, .int .u8 0, .int .u8 0, .int .u8 0, .int .u8 0, .int .u8 0, .int .u8 0, .int .u8 0, .int .u8 0, .int .u8 0, .int .u8 0, .int .u8 0, .int .u8 0, .int .u8 0, .int .u8 0, .int .u8 0, .int .u8 0, .int .u8 0, .int .u8 0, .int .u8 0, .int .u8 0, .int .u8 0, .int .u8 0, .int .u8 0, .int .u8 0, .int .u8 0, .int .u8 0, .int .u8 0, .int .u8 0, .int .u8 0]) (.agg #[.int .u8 0, .int .u8 0, .int .u8 0, .int .u8 0, .int .u8 0, .int .u8 0, .int .u8 0, .int .u8 0, .int .u8 0, .int .u8 0, .int .u8 0, .int .u8 0, .int .u8 0, .int .u8 0, .int .u8 0, .int .u8 0, .int .u8 0, .int .u8 0, .int .u8 0, .int .u8 0, .int .u8 0, .int .u8 0, .int .u8 0, .int .u8 0, .int .u8 0, .int .u8 0, .int .u8 0, .int .u8 0, .int .u8 0, .int .u8 0, .int .u8 0, .int .u8 0]) L L (by kernel_rfl) (by kernel_rfl) hL hL
  rw [show (10000 : Nat) = 9997 + 3 from rfl, hr, hiff.2 rfl]

theorem size45 : (Tryf.prog.info? 45).map (·.size) = some 32 := by kernel_rfl

set_option maxRecDepth 100000 in
theorem digest_z (L : Nat) (k : ByteArray) (w : World) (z : Array Value) (hz : (Tryf.prog.info? 45).map (·.size) = some z.size) (hc : (Value.agg z).cells = z)
    (he : ∀ W : World, (Op.equalIn 10000 45 (.agg z) (.agg #[.int .u8 0, .int .u8 0, .int .u8 0, .int .u8 0, .int .u8 0, .int .u8 0, .int .u8 0, .int .u8 0, .int .u8 0, .int .u8 0, .int .u8 0, .int .u8 0, .int .u8 0, .int .u8 0, .int .u8 0, .int .u8 0, .int .u8 0, .int .u8 0, .int .u8 0, .int .u8 0, .int .u8 0, .int .u8 0, .int .u8 0, .int .u8 0, .int .u8 0, .int .u8 0, .int .u8 0, .int .u8 0, .int .u8 0, .int .u8 0, .int .u8 0, .int .u8 0])).run Tryf.prog W = .ok true W) :
    Calls Tryf.prog 52 #[.pointer (some ⟨L, 0, none⟩), .string k, .agg z] w fun e w' => e = .returned (.tuple #[]) ∧ Below w.heap.size w w' := by
  go_enter Tryf.func52, Tryf.ntmps52
  go_wp2_with (refine wpList_load_row rfl 45 (.tmp 5) rfl w.heap.size rfl 45 z (0, 0) _ (heap_alloc_new _ _) Tryf.underlying45 rfl hz ?_)
  go_end0
  exact ⟨rfl, (Below.refl _ _).alloc (Nat.le_refl _) _⟩

theorem digest_no (L : Nat) (k : ByteArray) (w : World) : Calls Tryf.prog 52 #[.pointer (some ⟨L, 0, none⟩), .string k, .agg #[.int .u8 0, .int .u8 0, .int .u8 0, .int .u8 0, .int .u8 0, .int .u8 0, .int .u8 0, .int .u8 0, .int .u8 0, .int .u8 0, .int .u8 0, .int .u8 0, .int .u8 0, .int .u8 0, .int .u8 0, .int .u8 0, .int .u8 0, .int .u8 0, .int .u8 0, .int .u8 0, .int .u8 0, .int .u8 0, .int .u8 0, .int .u8 0, .int .u8 0, .int .u8 0, .int .u8 0, .int .u8 0, .int .u8 0, .int .u8 0, .int .u8 0, .int .u8 0]] w fun e w' => e = .returned (.tuple #[]) ∧ Below w.heap.size w w' :=
  digest_z L k w _ size45 rfl eq32
end Go.Proofs.Qxb6606000aFmt.W
