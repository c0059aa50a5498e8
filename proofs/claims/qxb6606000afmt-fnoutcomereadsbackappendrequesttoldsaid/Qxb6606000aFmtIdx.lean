import Derived.Test.Qxb6606000aFmtLines
import Derived.Deep.QuietTactic
import Derived.BigQuiet
import Derived.Laws.CopyOwn
namespace Go.Proofs.Qxb6606000aFmt.W
open Go.RowKit Go.Lib
open Plain
set_option linter.unusedVariables false
set_option linter.unusedSimpArgs false

/-- The bytes l lie in block g from off on. -/
def BytesAt (g off : Nat) (l : List UInt8) (w : World) : Prop := ∀ (i : Nat) (c : UInt8), l[i]? = some c → w.cell? ⟨g, off + i, none⟩ = some (.int .u8 c.toNat)

theorem BytesAt.drewN {g off : Nat} {l : List UInt8} {w : World} (h : BytesAt g off l w) (q : Nat) : BytesAt g off l (w.drewN q) := h

set_option maxHeartbeats 1000000 in
theorem index_any (g n c p : Nat) (s : ByteArray) (l : List UInt8) (w : World) (hl : l.length = n) (hn : n ≤ 10000000) (hB : BytesAt g 0 l w) (hp : p + s.size ≤ n) (hs0 : s.size ≤ 100)
    (HN : ∀ i, i < p → ∃ j, j < s.size ∧ l[i + j]? ≠ s.data.toList[j]?) (HY : ∀ j, j < s.size → l[p + j]? = s.data.toList[j]?) :
    Calls Tryf.prog 21 #[.slice (some ⟨g, 0, none⟩) n c, .string s] w fun e w' => e = .returned (.int .i64 p) ∧ Below w.heap.size w w' := by
  have HN' : Hid (∀ i, i < p → ∃ j, j < s.size ∧ l[i + j]? ≠ s.data.toList[j]?) := HN
  have HY' : Hid (∀ j, j < s.size → l[p + j]? = s.data.toList[j]?) := HY
  have HL : Hid (l.length = n) := hl
  clear HN HY hl
  go_enter Tryf.func21, Tryf.ntmps21
  go_wp2
  go_loopw [5, 6] (fun i _ wr => ∃ k : Nat, k ≤ p ∧ i = .int .i64 k ∧ BytesAt g 0 l wr ∧ Below w.heap.size w wr) (fun i _ _ => p - (RowKit.intOf i).toNat)
  case atStart => exact ⟨0, Nat.zero_le _, rfl, hB, Below.refl _ _⟩
  case round =>
    obtain ⟨k, hk, rfl, hBk, hbel⟩ := hrel
    go_wp2
    go_loopw [6] (fun jv wr => ∃ j : Nat, j ≤ s.size ∧ jv = .int .i64 j ∧ BytesAt g 0 l wr ∧ Below w.heap.size w wr ∧ Hid (∀ i, i < j → l[k + i]? = s.data.toList[i]?)) (fun jv _ => s.size - (RowKit.intOf jv).toNat)
    case atStart => exact ⟨0, Nat.zero_le _, rfl, hBk, hbel, fun i hi => absurd hi (Nat.not_lt_zero i)⟩
    case round =>
      obtain ⟨j, hj, rfl, hBj, hbj, HJ⟩ := hrel
      have hks : (k : Int) + (s.size : Int) ≤ (n : Int) := by omega
      by_cases hjs : j < s.size
      · obtain ⟨c, hc⟩ : ∃ c, s[j] = c := ⟨_, rfl⟩
        have hcl : s.data.toList[j]? = some c := by rw [← hc]; exact Lib.data_getElem? s j hjs
        have hkl : k + j < l.length := by have := HL.out; omega
        obtain ⟨d, hd⟩ : ∃ d, l[k + j]? = some d := ⟨_, List.getElem?_eq_getElem hkl⟩
        have hcell : ∀ q, (wr.drewN q).cell? ⟨g, k + j, none⟩ = some (.int .u8 d.toNat) := fun q => by have := hBj (k + j) d hd; rwa [Nat.zero_add] at this
        have hcell0 := hcell 0
        have hkn : (k : Int) + (j : Int) < (n : Int) := by omega
        have hji : (j : Int) < (s.size : Int) := by omega
        by_cases hcd : c = d
        · subst hcd
          have HJ2 : Hid (∀ i, i < j + 1 → l[k + i]? = s.data.toList[i]?) := by
            intro i hi
            by_cases hij : i = j
            · subst hij; rw [hd, hcl]
            · exact HJ.out i (by omega)
          clear hcl hd hkl
          go_wp2_with fail
          go_quiet (fail)
          go_wp2
          go_roundw
          case rel => exact ⟨j + 1, by omega, by go_num, hBj, hbj.trans (below_drewN _ _ _), HJ2⟩
          case measure => simp [RowKit.intOf]; omega
        · have hkp : k < p := by
            rcases Nat.lt_or_ge k p with h | h
            · exact h
            · exfalso
              obtain rfl : k = p := by omega
              have := HY'.out j hjs
              rw [hd, hcl] at this
              exact hcd (Option.some.inj this).symm
          have hne : ((d.toNat : Int) == (c.toNat : Int)) = false := beq_eq_false_iff_ne.2 (fun e => hcd (UInt8.toNat_inj.1 (by omega)))
          clear hcl hd hkl hcd
          go_wp2_with fail
          go_quiet (fail)
          go_wp2
          go_roundw
          case rel => exact ⟨k + 1, by omega, by go_num, hBj, hbj.trans (below_drewN _ _ _)⟩
          case measure => simp [RowKit.intOf]; omega
      · obtain rfl : j = s.size := by omega
        have hkp : k = p := by
          rcases Nat.lt_or_ge k p with h | h
          · exfalso
            obtain ⟨i, hi, hne⟩ := HN'.out k h
            exact hne (HJ.out i hi)
          · omega
        subst hkp
        have hdf : decide ((s.size : Int) < (s.size : Int)) = false := decide_eq_false (by omega)
        go_wp2_with fail
        go_quiet (fail)
        go_wp2
        go_ret
        exact ⟨rfl, hbj.trans (below_drewN _ _ _)⟩
end Go.Proofs.Qxb6606000aFmt.W
