import Derived.Test.Qxb6605562aRune
import Derived.Lib.OthersKept
import Derived.Lib.IndexAny
namespace Go.Proofs.Qxb6605562a.fnUnquoteInvertsEscape
open Go.RowKit
open Utf

/-- What the caller needs of the answer: below nought, none of the two bytes is there. -/
def AnyOk (s : ByteArray) (n : Int) : Prop := n < 0 → ∀ c ∈ s.data.toList, c ≠ 34 ∧ c ≠ 92

theorem index_two {x : UInt8} (hx : x ≠ 34) (hy : x ≠ 92) : Lib.indexByte [34, 92] x = -1 := by
  have h1 : ((34 : UInt8) == x) = false := beq_eq_false_iff_ne.2 (Ne.symm hx)
  have h2 : ((92 : UInt8) == x) = false := beq_eq_false_iff_ne.2 (Ne.symm hy)
  simp [Lib.indexByte, h1, h2]

theorem index_hit {x : UInt8} (hx : x = 34 ∨ x = 92) : 0 ≤ Lib.indexByte [34, 92] x := by
  rcases hx with rfl | rfl <;> decide

theorem rune_low (x : UInt8) (w : World) (h : x.toNat < 128) :
    Calls Try.prog 36 #[.string ⟨#[34, 92]⟩, .int .i32 x.toNat] w fun e w' => e = .returned (.int .i64 (Lib.indexByte [34, 92] x)) ∧ w = w' := by
  refine (Try.strings_IndexRune_ascii ⟨#[34, 92]⟩ x.toNat w (by omega) (by omega)).mono fun e w' ⟨he, hw⟩ => ⟨?_, hw.symm⟩
  rw [he]
  simp

set_option maxHeartbeats 800000 in
set_option maxRecDepth 100000 in
theorem any_short (s : ByteArray) (w : World) (h8 : s.size ≤ 8) :
    Calls Try.prog 33 #[.string s, .string ⟨#[34, 92]⟩] w fun e w' => ∃ n : Int, e = .returned (.int .i64 n) ∧ AnyOk s n ∧ Below w.heap.size w w' := by
  have h8z : decide ((8 : Int) < (s.size : Int)) = false := decide_eq_false (by omega)
  go_enter Try.func33, Try.ntmps33
  go_wp2_with (go_at_call 37; refine (Try.strings_shouldUseASCIISet _ _).mono ?_; rintro e w' ⟨rfl, hw⟩; rw [hw, h8z])
  go_loopw [9, 10] (fun _ _ wr => ∃ i : Nat, i ≤ s.size ∧ wr.heap[w.heap.size]? = some (.stringIter s i) ∧ Below w.heap.size w wr ∧ Free s i) (fun _ _ wr => s.size - wr.iterPos w.heap.size)
  case atStart => exact ⟨0, Nat.zero_le _, World.iter_heap w s 0, (Below.refl _ _).alloc (Nat.le_refl _) _, Free.zero s⟩
  case round =>
    obtain ⟨i, hi, hit, hbel, hfree⟩ := hrel
    by_cases hlt : i < s.size
    · obtain ⟨x, hx⟩ : ∃ x : UInt8, s[i]'hlt = x := ⟨_, rfl⟩
      by_cases hx128 : x.toNat < 128
      · have hnx := fun ty => Lib.run_next_ascii_at (P := Try.prog) wr w.heap.size s i ty hit hlt (by rw [hx]; exact hx128)
        rw [hx] at hnx
        have hit2 := Lib.iterAt_heap wr w.heap.size s i (i + 1) hit
        have hbel2 := Lib.below_iterAt hbel (k := w.heap.size) (Nat.le_refl _) s (i + 1)
        by_cases hsp : x = 34 ∨ x = 92
        · have hge := index_hit hsp
          clear hsp
          go_wp2_with (go_at_call 36; refine (rune_low _ _ hx128).mono ?_; rintro e w' ⟨rfl, rfl⟩)
          go_ret
          exact ⟨i, rfl, fun h => absurd h (by omega), hbel2⟩
        · have hne : x ≠ 34 ∧ x ≠ 92 := ⟨fun h => hsp (.inl h), fun h => hsp (.inr h)⟩
          have hix := index_two hne.1 hne.2
          have hf2 := hfree.succ hlt (by rw [hx]; exact hne.1) (by rw [hx]; exact hne.2)
          clear hsp hne hfree hx
          go_wp2_with (go_at_call 36; refine (rune_low _ _ hx128).mono ?_; rintro e w' ⟨rfl, rfl⟩; rw [hix])
          go_roundw
          case rel => exact ⟨i + 1, by omega, hit2, hbel2, hf2⟩
          case measure => simp only [World.iterPos, hit2, hit]; omega
      · have hnx := fun ty => Lib.run_next_any_at (P := Try.prog) wr w.heap.size s i ty hit hlt
        have hhi := decode_high s i hlt (by rw [hx]; omega)
        have hle := decode_le s i
        have hwd := width_le s i hlt (by rw [hx]; omega)
        have hf2 := hfree.wide hlt (by rw [hx]; omega)
        have hit2 := Lib.iterAt_heap wr w.heap.size s i (i + (Utf8.decode s i).2) hit
        have hbel2 := Lib.below_iterAt hbel (k := w.heap.size) (Nat.le_refl _) s (i + (Utf8.decode s i).2)
        generalize Utf8.decode s i = d at *
        generalize wr.iterAt w.heap.size s (i + d.2) = wi at *
        have hsz : w.heap.size < wi.heap.size := (Array.getElem?_eq_some_iff.1 hit2).1
        clear hfree hx
        go_wp2_with (go_at_call 36; refine (rune_high _ _ (by omega) (by omega)).mono ?_; rintro e w' ⟨rfl, hb⟩)
        go_roundw
        case rel => exact ⟨i + d.2, hwd, (hb.block _ hsz).trans hit2, hbel2.trans (hb.mono (by omega)), hf2⟩
        case measure => simp only [World.iterPos, (hb.block _ hsz).trans hit2, hit]; omega
    · obtain rfl : i = s.size := by omega
      have hnx := fun ty => Lib.run_next_end_at (P := Try.prog) wr w.heap.size s s.size ty hit hlt
      go_wp2_with fail
      go_ret
      exact ⟨-1, rfl, fun _ => hfree.all, hbel⟩
theorem indexAny_none (chars : List UInt8) : ∀ l : List UInt8, Lib.indexAny l chars < 0 → ∀ c ∈ l, chars.contains c = false
  | [], _, c, hc => by cases hc
  | b :: l, h, c, hc => by
    have hge := Lib.indexAny_ge chars l
    rw [Lib.indexAny] at h
    cases hb : chars.contains b with
    | true => rw [hb, if_pos rfl] at h; exact absurd h (by omega)
    | false =>
      rw [hb, if_neg (by simp)] at h
      have h2 : Lib.indexAny l chars < 0 := by
        split at h
        · rename_i e; rw [beq_iff_eq] at e; omega
        · omega
      rcases List.mem_cons.1 hc with rfl | hc
      · exact hb
      · exact indexAny_none chars l h2 c hc

theorem two_ascii : ∀ (j : Nat) (b : UInt8), (⟨#[34, 92]⟩ : ByteArray).data.toList[j]? = some b → b.toNat < 128 := by
  intro j b h
  have hm : b ∈ [(34 : UInt8), 92] := List.mem_of_getElem? h
  rcases List.mem_cons.1 hm with rfl | hm
  · decide
  · rcases List.mem_cons.1 hm with rfl | hm
    · decide
    · cases hm

theorem any_long (s : ByteArray) (w : World) (h8 : 8 < s.size) (hs : s.size < 4294967281) :
    Calls Try.prog 33 #[.string s, .string ⟨#[34, 92]⟩] w fun e w' => ∃ n : Int, e = .returned (.int .i64 n) ∧ AnyOk s n ∧ Below w.heap.size w w' := by
  refine (Try.strings_IndexAny_long (zero_of_info (n := 256) (by kernel_rfl)).1 s ⟨#[34, 92]⟩ w (by decide) h8 hs (by decide) two_ascii).mono fun e w' ⟨he, hw⟩ => ⟨_, he, ?_, ?_⟩
  · intro hn c hc
    have h := indexAny_none _ _ hn c hc
    constructor
    · rintro rfl; exact absurd h (by decide)
    · rintro rfl; exact absurd h (by decide)
  · rw [hw]
    exact ((Below.refl _ _).alloc (Nat.le_refl _) _).alloc (by simp) _

theorem any_all (s : ByteArray) (w : World) (hs : s.size < 4294967281) :
    Calls Try.prog 33 #[.string s, .string ⟨#[34, 92]⟩] w fun e w' => ∃ n : Int, e = .returned (.int .i64 n) ∧ AnyOk s n ∧ Below w.heap.size w w' := by
  by_cases h8 : s.size ≤ 8
  · exact any_short s w h8
  · exact any_long s w (by omega) hs

/-- strings.ContainsAny at the two bytes: where it says no, none of them is there. -/
theorem contains_any (s : ByteArray) (w : World) (hs : s.size < 4294967281) :
    Calls Try.prog 28 #[.string s, .string ⟨#[34, 92]⟩] w fun e w' => ∃ b : Bool, e = .returned (.bool b) ∧ (b = false → ∀ c ∈ s.data.toList, c ≠ 34 ∧ c ≠ 92) ∧ Below w.heap.size w w' := by
  go_enter Try.func28, Try.ntmps28
  go_wp2_with (go_at_call 33; refine (any_all _ _ hs).mono ?_; rintro e w' ⟨n, rfl, hn, hb⟩)
  go_ret
  exact ⟨_, rfl, fun h => hn (by simpa using h), hb⟩

end Go.Proofs.Qxb6605562a.fnUnquoteInvertsEscape
