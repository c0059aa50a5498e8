import Derived.Test.Qxb6606073aRows
import Derived.WalkKit
import Derived.WalkSpells
import Derived.Maps.Own
import Derived.Maps.OwnSet
import Derived.Maps.Views
import Derived.DeepKeys4
namespace Go.Proofs.Qxb6606073a.W
open Go.RowKit Go.Maps
open Go.WideMaps (keyOf_string_mk)

theorem laidOut : laidOutB Try.prog = true := by kernel_rfl
theorem law88 : Keyed Try.prog 88 := Keyed.of_law (deep_law_laid laidOut (m := 4) (by omega) (by decide +kernel) (by kernel_rfl) (by kernel_rfl))
theorem law9 : Keyed Try.prog 9 := string_keyed Try.underlying9

/-- An action, as a value. -/
abbrev act (a b c : ByteArray) (d : Bool) : Value := .agg #[.string a, .string b, .string c, .bool d]

theorem cells88 : Try.prog.cellsOf 88 = 4 := by kernel_rfl
theorem cells83 : Try.prog.cellsOf 83 = 2 := by kernel_rfl
theorem cells9 : Try.prog.cellsOf 9 = 1 := by kernel_rfl
theorem cells4 : Try.prog.cellsOf 4 = 1 := by kernel_rfl
theorem keyType88 : Try.prog.keyType 88 = true := by kernel_rfl
theorem typesSize : Nat.ble 3 Try.prog.types.size = true := by kernel_rfl

theorem key88 {a b c : ByteArray} (d : Bool) (ha : a.size ≤ maxLen) (hb : b.size ≤ maxLen) (hc : c.size ≤ maxLen) : ∃ l, keyOf Try.prog 88 (act a b c d) = some l := by
  obtain ⟨m, hm⟩ : ∃ m, Try.prog.types.size = m + 3 := ⟨Try.prog.types.size - 3, by have := Nat.le_of_ble_eq_true typesSize; omega⟩
  unfold keyOf
  rw [Try.underlying88, hm]
  simp only [keyType88, Value.formed, Try.underlying88, cells88]
  simp [Program.keyLits, Try.underlying88, Try.underlying83, Try.underlying9, Try.underlying4, cells88, cells83, cells9, cells4, Value.cells, ha, hb, hc]
  rw [if_pos (by intro i x; match i, x with | 0, _ => simp | 1, _ => simp)]
  exact ⟨_, rfl⟩

/-- How an element of the map of actions is told. -/
def hD (b : Bool) (r : Option Nat) : DataW Unit := .agg [.lit (.bool b), match r with | none => .nil | some m => .lit (.int .i64 m)]
def hR (v : Value) : Option (DataW Unit × List MemPlace) :=
  match v with
  | .agg cs => match cs.toList with
    | [.bool b, .map r] => some (hD b r, [])
    | _ => none
  | _ => none

theorem hR_mk (b : Bool) (r : Option Nat) : hR (.agg #[.bool b, .map r]) = some (hD b r, []) := rfl

theorem hR_inv {v : Value} {b : Bool} {r : Option Nat} {ps : List MemPlace} (h : hR v = some (hD b r, ps)) : v = .agg #[.bool b, .map r] := by
  unfold hR at h
  split at h
  · rename_i cs
    split at h
    · rename_i b' r' hcs
      have e : cs = #[.bool b', .map r'] := by
        cases cs; simp at hcs; subst hcs; rfl
      subst e
      cases r <;> cases r' <;> simp [hD] at h
      · obtain ⟨rfl, _⟩ := h; rfl
      · obtain ⟨⟨rfl, h2⟩, _⟩ := h
        have : (_ : Nat) = _ := Int.ofNat.inj h2
        subst this; rfl
    · cases h
  · cases h

/-- The map of actions with its one entry, at a key. -/
theorem look88 {w : World} {A n : Nat} {b : Bool} {r : Option Nat} {l0 : Lit} {k0 k : Value} {l : Lit} (h : w.ownsMap Try.prog 88 hR A n ((DataW.map []).put l0 (hD b r))) (hk0 : keyOf Try.prog 88 k0 = some l0) (hk : keyOf Try.prog 88 k = some l) :
    (k = k0 → (Instr.lookup 70 (.map (some A)) k false).run Try.prog w = .ok (.agg #[.bool b, .map r]) w) ∧
    (k ≠ k0 → (Instr.lookup 70 (.map (some A)) k false).run Try.prog w = .ok (.agg #[.bool false, .map none]) w) := by
  obtain ⟨v, ps, hrun, hR0⟩ := h.lookup law88 Try.underlying70 (Try.zeroValue92 w) (hR_mk false none) hk
  constructor
  · intro e
    subst e
    obtain rfl : l = l0 := Option.some.inj (hk.symm.trans hk0)
    rw [atKey_put_same isMap_empty (law88.key hk0)] at hR0
    rw [hrun, hR_inv hR0]
  · intro e
    have hne : l ≠ l0 := fun e2 => e (law88.inj hk (e2 ▸ hk0))
    rw [atKey_put_other hne] at hR0
    have : (DataW.map []).atKey l (hD false none) = hD false none := rfl
    rw [this] at hR0
    rw [hrun, hR_inv hR0]

theorem look88_empty {w : World} {A n : Nat} {k : Value} {l : Lit} (h : w.ownsMap Try.prog 88 hR A n (.map [])) (hk : keyOf Try.prog 88 k = some l) :
    (Instr.lookup 70 (.map (some A)) k false).run Try.prog w = .ok (.agg #[.bool false, .map none]) w := by
  obtain ⟨v, ps, hrun, hR0⟩ := h.lookup law88 Try.underlying70 (Try.zeroValue92 w) (hR_mk false none) hk
  have : (DataW.map []).atKey l (hD false none) = hD false none := rfl
  rw [this] at hR0
  rw [hrun, hR_inv hR0]

/-- The set of names. -/
def keysOf (ss : List ByteArray) : List Lit := ss.map (fun s => .string s.data.toList)
def setB (ss : List ByteArray) : DataW Unit := setOf (.lit (.bool true)) (keysOf ss)
/-- Is k among them? -/
def mem (k : ByteArray) (ss : List ByteArray) : Bool := ss.any (fun s => s.data.toList == k.data.toList)

theorem bR_inv {P : Program} {t : TypeId} (he : P.underlying t = some .bool) {v : Value} {x : Bool} {ps : List MemPlace} (h : plainElem (H := Unit) P t v = some (.lit (.bool x), ps)) : v = .bool x := by
  unfold plainElem at h
  rw [he] at h
  cases v <;> simp at h
  rw [h.1]

theorem isMap_setOf (u : DataW Unit) (acc : List Lit) : IsMap (setOf u acc) := by
  unfold setOf
  generalize hm : (DataW.map [] : DataW Unit) = m
  have : IsMap m := hm ▸ isMap_empty
  clear hm
  induction acc generalizing m with
  | nil => exact this
  | cons x r ih => exact ih (m.put x u) (this.put x u)

theorem atKey_fold (k : ByteArray) : ∀ (ss : List ByteArray) (m : DataW Unit), IsMap m →
    ((keysOf ss).foldl (fun m x => m.put x (.lit (.bool true))) m).atKey (.string k.data.toList) (.lit (.bool false)) = if mem k ss then .lit (.bool true) else m.atKey (.string k.data.toList) (.lit (.bool false))
  | [], m, _ => rfl
  | s :: r, m, hm => by
    have ih := atKey_fold k r (m.put (.string s.data.toList) (.lit (.bool true))) (hm.put _ _)
    show ((keysOf r).foldl (fun m x => m.put x (.lit (.bool true))) (m.put (.string s.data.toList) (.lit (.bool true)))).atKey _ _ = _
    rw [ih]
    unfold mem
    rw [List.any_cons]
    by_cases e : s.data.toList = k.data.toList
    · rw [e, atKey_put_same (k := .string k.data.toList) hm trivial]
      simp
    · have e2 : (s.data.toList == k.data.toList) = false := beq_eq_false_iff_ne.2 e
      rw [atKey_put_other (fun h => e (Lit.string.inj h).symm), e2, Bool.false_or]

theorem atKey_setB (ss : List ByteArray) (k : ByteArray) : (setB ss).atKey (.string k.data.toList) (.lit (.bool false)) = .lit (.bool (mem k ss)) := by
  unfold setB setOf
  rw [atKey_fold k ss _ isMap_empty]
  cases mem k ss <;> rfl

theorem look90 {w : World} {M n : Nat} {ss : List ByteArray} {k : ByteArray} (h : w.ownsMap Try.prog 9 (plainElem (H := Unit) Try.prog 4) M n (setB ss)) (hk : k.size ≤ maxLen) :
    (Instr.lookup 90 (.map (some M)) (.string k) false).run Try.prog w = .ok (.bool (mem k ss)) w := by
  obtain ⟨v, ps, hrun, hR0⟩ := h.lookup law9 Try.underlying90 (Try.zeroValue4 w) (plainElem_bool Try.underlying4 false) (keyOf_string_mk Try.underlying9 hk)
  rw [atKey_setB] at hR0
  rw [hrun, bR_inv Try.underlying4 hR0]

theorem look90_nil {w : World} {k : ByteArray} (hk : k.size ≤ maxLen) : (Instr.lookup 90 (.map none) (.string k) false).run Try.prog w = .ok (.bool false) w :=
  Maps.look_nil false law9 Try.underlying90 (Try.zeroValue4 w) (keyOf_string_mk Try.underlying9 hk)
end Go.Proofs.Qxb6606073a.W
