import Derived.Test.Qxb6606073aMaps
import Derived.RegionTactic
import Derived.ChangeAlike
import Derived.BigRegion
import Derived.Deep.MidRow
namespace Go.Proofs.Qxb6606073a.W
open Go.RowKit Go.Maps
open Go.WideMaps (keyOf_string_mk)
set_option linter.unusedVariables false
set_option linter.unusedSimpArgs false

def same (a b : ByteArray) : Bool := a.data.toList == b.data.toList
def star : ByteArray := ⟨#[42]⟩

theorem same_iff {a b : ByteArray} : same a b = true ↔ a = b := by
  unfold same
  rw [beq_iff_eq]
  constructor
  · intro h
    cases a; cases b
    rw [ByteArray.mk.injEq]
    exact Array.toList_inj.1 h
  · rintro rfl; rfl

/-- The coverage that one grant makes, at C: its map of actions A, the set of names M. -/
structure CovAt (C A : Nat) (M : Option Nat) (rv rg rr : ByteArray) (ra : Bool) (ss : List ByteArray) (w : World) : Prop where
  cell : w.cell? ⟨C, 1, none⟩ = some (.map (some A))
  own : ∃ n l0, keyOf Try.prog 88 (act rv rg rr ra) = some l0 ∧ w.ownsMap Try.prog 88 hR A n ((DataW.map []).put l0 (hD ss.isEmpty M))
  names : (ss.isEmpty = true ∧ M = none) ∨ ∃ m n, ss.isEmpty = false ∧ M = some m ∧ w.ownsMap Try.prog 9 (plainElem (H := Unit) Try.prog 4) m n (setB ss)

theorem own_below {P : Program} {k : TypeId} {R : Value → Option (DataW Unit × List MemPlace)} {b n : Nat} {D : DataW Unit} {w w' : World} (h : w.ownsMap P k R b n D) (hb : Below w.heap.size w w') : w'.ownsMap P k R b n D := by
  have hl := h.lt
  obtain ⟨es, clock, h1, F, h2, h3⟩ := h
  exact ⟨es, clock, (hb.block b hl).trans h1, F, h2, h3⟩

theorem CovAt.below {C A : Nat} {M : Option Nat} {rv rg rr : ByteArray} {ra : Bool} {ss : List ByteArray} {w w' : World} (h : CovAt C A M rv rg rr ra ss w) (hb : Below w.heap.size w w') : CovAt C A M rv rg rr ra ss w' := by
  refine ⟨(hb.cell (p := ⟨C, 1, none⟩) (World.block_lt_of_cell? w _ h.cell)).trans h.cell, ?_, ?_⟩
  · obtain ⟨n, l0, h1, h2⟩ := h.own
    exact ⟨n, l0, h1, own_below h2 hb⟩
  · rcases h.names with h1 | ⟨m, n, h1, h2, h3⟩
    · exact .inl h1
    · exact .inr ⟨m, n, h1, h2, own_below h3 hb⟩

/-- Is the key the grant's own? -/
def hit (rv rg rr : ByteArray) (ra : Bool) (a b c : ByteArray) (d : Bool) : Bool := same rv a && same rg b && same rr c && (ra == d)

theorem hit_iff {rv rg rr : ByteArray} {ra : Bool} {a b c : ByteArray} {d : Bool} : hit rv rg rr ra a b c d = true ↔ act a b c d = act rv rg rr ra := by
  unfold hit
  simp only [Bool.and_eq_true, same_iff, beq_iff_eq]
  constructor
  · rintro ⟨⟨⟨rfl, rfl⟩, rfl⟩, rfl⟩; rfl
  · intro h
    simp at h
    obtain ⟨rfl, rfl, rfl, rfl⟩ := h
    simp

/-- What the look-up at a key gives. -/
theorem CovAt.look {C A : Nat} {M : Option Nat} {rv rg rr : ByteArray} {ra : Bool} {ss : List ByteArray} {w : World} (h : CovAt C A M rv rg rr ra ss w) {a b c : ByteArray} (d : Bool) (ha : a.size ≤ maxLen) (hb : b.size ≤ maxLen) (hc : c.size ≤ maxLen) :
    (Instr.lookup 70 (.map (some A)) (act a b c d) false).run Try.prog w = .ok (.agg #[.bool (hit rv rg rr ra a b c d && ss.isEmpty), .map (if hit rv rg rr ra a b c d then M else none)]) w := by
  obtain ⟨n, l0, h1, h2⟩ := h.own
  obtain ⟨l, hl⟩ := key88 d ha hb hc
  obtain ⟨y, z⟩ := look88 h2 h1 hl
  cases hh : hit rv rg rr ra a b c d with
  | true => rw [y (hit_iff.1 hh)]; simp
  | false =>
    rw [z (fun e => by rw [hit_iff.2 e] at hh; cases hh)]; simp

theorem CovAt.name {C A : Nat} {M : Option Nat} {rv rg rr : ByteArray} {ra : Bool} {ss : List ByteArray} {w : World} (h : CovAt C A M rv rg rr ra ss w) (t : Bool) {k : ByteArray} (hk : k.size ≤ maxLen) :
    (Instr.lookup 90 (.map (if t then M else none)) (.string k) false).run Try.prog w = .ok (.bool (t && (!ss.isEmpty) && mem k ss)) w := by
  cases t with
  | false => simpa using look90_nil hk
  | true =>
    rcases h.names with ⟨h1, rfl⟩ | ⟨m, n, h1, rfl, h3⟩
    · rw [h1]; simpa using look90_nil hk
    · rw [h1]; simpa using look90 h3 hk

/-- covers, in plain words. -/
def covB (rv rg rr : ByteArray) (ra : Bool) (ss : List ByteArray) (v g r : ByteArray) (an : Bool) (nm : ByteArray) (nd : Bool) : Bool :=
  (same rv v || same rv star) && (same rg g || same rg star) && (same rr r && (ra == an)) && (ss.isEmpty || nd && mem nm ss)

/-- One of the four looks. -/
def one (rv rg rr : ByteArray) (ra : Bool) (ss : List ByteArray) (a b r : ByteArray) (an : Bool) (nm : ByteArray) (nd : Bool) : Bool :=
  (hit rv rg rr ra a b r an && ss.isEmpty) || nd && (hit rv rg rr ra a b r an && (!ss.isEmpty) && mem nm ss)

theorem cov_ones (rv rg rr : ByteArray) (ra : Bool) (ss : List ByteArray) (v g r : ByteArray) (an : Bool) (nm : ByteArray) (nd : Bool) :
    covB rv rg rr ra ss v g r an nm nd = (one rv rg rr ra ss v g r an nm nd || one rv rg rr ra ss v star r an nm nd || one rv rg rr ra ss star g r an nm nd || one rv rg rr ra ss star star r an nm nd) := by
  unfold covB one hit
  cases same rv v <;> cases same rv star <;> cases same rg g <;> cases same rg star <;> cases same rr r <;> cases (ra == an) <;> cases ss.isEmpty <;> cases nd <;> cases mem nm ss <;> rfl

end Go.Proofs.Qxb6606073a.W
