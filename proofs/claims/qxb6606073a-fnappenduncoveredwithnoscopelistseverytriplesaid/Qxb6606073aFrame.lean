import Derived.Test.Qxb6606073aRows
import Derived.WalkKit
import Derived.ProofKit
import Derived.OpenShut
import Derived.ShutString
import Derived.ChangeOld
import Derived.Below
import Derived.SliceStrings
namespace Go.Proofs.Qxb6606073a
open Go.ChangeShapes Go.WideShapes Go.ChangeAt Go.RowKit
open Go.ChangeMaps (open_string shut_string)
set_option linter.unusedVariables false

theorem own : ownKnob Try.prog.godebug = none := by kernel_rfl
theorem laidOut : laidOutB Try.prog = true := by kernel_rfl
theorem cells9 : Try.prog.cellsOf 9 = 1 := by kernel_rfl

/-- A slice of strings that came in: nil, or a row that holds ss. -/
def StrsAt (ns : Value) (ss : List ByteArray) (w : World) : Prop :=
  (ns = .slice none 0 0 ∧ ss = []) ∨ ∃ (a : Addr) (cap : Nat), ns = .slice (some a) ss.length cap ∧ ss.length ≤ cap ∧ cap ≤ maxLen ∧ (∀ i, i < ss.length → w.cell? (a.add i) = some (.string (ss.getD i ByteArray.empty))) ∧ ∀ s ∈ ss, s.size ≤ maxLen

/-- What the walk says of the law's call. -/
def Walk6 : Prop := ∀ (rv rg rr : ByteArray) (ra : Bool) (ns : Value) (ss : List ByteArray) (v g r : ByteArray) (an : Bool) (nm : ByteArray) (nd : Bool) (w : World),
    rv.size ≤ maxLen → rg.size ≤ maxLen → rr.size ≤ maxLen → v.size ≤ maxLen → g.size ≤ maxLen → r.size ≤ maxLen → nm.size ≤ maxLen → StrsAt ns ss w →
    Calls Try.prog 6 #[.string rv, .string rg, .string rr, .bool ra, ns, .string v, .string g, .string r, .bool an, .string nm, .bool nd] w fun e w' => e = .returned (.bool true) ∧ Below w.heap.size w w'

set_option maxRecDepth 100000 in
theorem lifted6 (hw6 : Walk6) (os : Os) (started : os.Started) (H : Type) (enc : TypeId × Value → H) :
    ReturnsInHanded {} Try.checked os 6 .any (Rows.fnCoverResourceOneGrantClosedFormSpec.pre6 enc Try.prog Try.f6 Rows.fnCoverResourceOneGrantClosedFormRow.domain false) (Rows.fnCoverResourceOneGrantClosedFormSpec.post enc Try.prog Try.f6 false true false false) := by
  refine returnsInHanded_of_change (C := Try.checked) own started (by kernel_rfl) Try.func6
    (ChangeSpec.witness6 (enc := enc) (C := Try.checked) false ⟨#[], #[.string ByteArray.empty, .string ByteArray.empty, .string ByteArray.empty, .bool false, .slice none 0 0, .string ByteArray.empty, .string ByteArray.empty, .string ByteArray.empty, .bool false, .string ByteArray.empty, .bool false], []⟩ 8 (by kernel_rfl) (by kernel_rfl) (by kernel_rfl) (by kernel_rfl)) ?_
  intro W base args ds gs before hval0 hW hcnd _
  have hval : ∀ (j : Nat) t v, Try.f6.params[j]? = some t → args[j]? = some v → Value.okWide Try.prog W .any base t v := hval0
  have hW' := hW
  obtain ⟨p, q, hA0, hV, rfl, hfz, hnd⟩ := hW
  have hA : DataW.TrodAll enc Try.prog W 0 (fun _ => true) true Try.f6.params.toList args.toList ds p := hA0
  rw [Try.params6] at hA hval
  obtain ⟨v0, vs0, d0, ds0, p0, q0, hargs, rfl, rfl, h0, r0⟩ := trodAll_cons hA
  obtain ⟨v1, vs1, d1, ds1, p1, q1, rfl, rfl, rfl, h1, r1⟩ := trodAll_cons r0
  obtain ⟨v2, vs2, d2, ds2, p2, q2, rfl, rfl, rfl, h2, r2⟩ := trodAll_cons r1
  obtain ⟨v3, vs3, d3, ds3, p3, q3, rfl, rfl, rfl, h3, r3⟩ := trodAll_cons r2
  obtain ⟨v4, vs4, d4, ds4, p4, q4, rfl, rfl, rfl, h4, r4⟩ := trodAll_cons r3
  obtain ⟨v5, vs5, d5, ds5, p5, q5, rfl, rfl, rfl, h5, r5⟩ := trodAll_cons r4
  obtain ⟨v6, vs6, d6, ds6, p6, q6, rfl, rfl, rfl, h6, r6⟩ := trodAll_cons r5
  obtain ⟨v7, vs7, d7, ds7, p7, q7, rfl, rfl, rfl, h7, r7⟩ := trodAll_cons r6
  obtain ⟨v8, vs8, d8, ds8, p8, q8, rfl, rfl, rfl, h8, r8⟩ := trodAll_cons r7
  obtain ⟨v9, vs9, d9, ds9, p9, q9, rfl, rfl, rfl, h9, r9⟩ := trodAll_cons r8
  obtain ⟨v10, vs10, d10, ds10, p10, q10, rfl, rfl, rfl, h10, r10⟩ := trodAll_cons r9
  obtain ⟨rfl, rfl, rfl⟩ := trodAll_nil r10
  obtain rfl : args = #[v0, v1, v2, v3, v4, v5, v6, v7, v8, v9, v10] := by cases args; simp_all
  obtain ⟨rfl, rfl⟩ := trodVars_none hV
  obtain ⟨a0, rfl, rfl, rfl, w0⟩ := open_string Try.underlying9 (hval 0 9 v0 rfl rfl) h0
  obtain ⟨a1, rfl, rfl, rfl, w1⟩ := open_string Try.underlying9 (hval 1 9 v1 rfl rfl) h1
  obtain ⟨a2, rfl, rfl, rfl, w2⟩ := open_string Try.underlying9 (hval 2 9 v2 rfl rfl) h2
  obtain ⟨a3, rfl, rfl, rfl⟩ := open_bool Try.underlying4 (hval 3 4 v3 rfl rfl) h3
  obtain ⟨sa, len, cap, rfl⟩ := okWide_slice Try.underlying23 (hval 4 23 v4 rfl rfl)
  obtain ⟨a5, rfl, rfl, rfl, w5⟩ := open_string Try.underlying9 (hval 5 9 v5 rfl rfl) h5
  obtain ⟨a6, rfl, rfl, rfl, w6⟩ := open_string Try.underlying9 (hval 6 9 v6 rfl rfl) h6
  obtain ⟨a7, rfl, rfl, rfl, w7⟩ := open_string Try.underlying9 (hval 7 9 v7 rfl rfl) h7
  obtain ⟨a8, rfl, rfl, rfl⟩ := open_bool Try.underlying4 (hval 8 4 v8 rfl rfl) h8
  obtain ⟨a9, rfl, rfl, rfl, w9⟩ := open_string Try.underlying9 (hval 9 9 v9 rfl rfl) h9
  obtain ⟨a10, rfl, rfl, rfl⟩ := open_bool Try.underlying4 (hval 10 4 v10 rfl rfl) h10
  clear hA0 hval0
  have hlt : ∀ x ∈ p4, x.block < W.heap.size := fun x hx => by
    have := hW'.lt x (by simp [hx])
    simpa using this
  have hS : ∃ ss, StrsAt (.slice sa len cap) ss W := by
    have h4k := h4
    obtain ⟨fuel, hf⟩ := h4k
    rcases open_strings Try.underlying23 Try.underlying9 cells9 hf with ⟨hcs, hx⟩ | ⟨a, len', cap', ss, hcs, _, hl, hm, hz, hx, hcell, hws⟩
    · have : Value.slice sa len cap = .slice none 0 0 := by simpa [Value.cells] using hcs
      exact ⟨[], .inl ⟨this, rfl⟩⟩
    · have e1 : Value.slice sa len cap = .slice (some a) len' cap' := by simpa [Value.cells] using hcs
      have hz' : ss.length = cap' := by simpa using hz
      have hl2 : (ss.take len').length = len' := by rw [List.length_take]; omega
      refine ⟨ss.take len', .inr ⟨a, cap', ?_, by omega, hm, ?_, fun s hs => hws s (List.mem_of_mem_take hs)⟩⟩
      · rw [hl2]; exact e1
      · intro i hi
        rw [hl2] at hi
        rw [hcell i (by omega)]
        simp [List.getD, hi]
  obtain ⟨ss, hS⟩ := hS
  refine (hw6 a0 a1 a2 a3 _ ss a5 a6 a7 a8 a9 a10 W w0 w1 w2 w5 w6 w7 w9 hS).mono fun e W' ⟨he, bel⟩ => ?_
  subst he
  exact ⟨_, rfl, _, _, _, [], _, [], hW', trodAll_mk1 (shut_bool Try.underlying4 _), (trodAll_cons_mk (shut_string Try.underlying9 w0) (trodAll_cons_mk (shut_string Try.underlying9 w1) (trodAll_cons_mk (shut_string Try.underlying9 w2) (trodAll_cons_mk (shut_bool Try.underlying4 _) (trodAll_cons_mk (Below.trod laidOut (by kernel_rfl) (by decide +kernel) h4 bel hlt) (trodAll_cons_mk (shut_string Try.underlying9 w5) (trodAll_cons_mk (shut_string Try.underlying9 w6) (trodAll_cons_mk (shut_string Try.underlying9 w7) (trodAll_cons_mk (shut_bool Try.underlying4 _) (trodAll_cons_mk (shut_string Try.underlying9 w9) (trodAll_cons_mk (shut_bool Try.underlying4 _) trodAll_mk0))))))))))), rfl, bel.frame _, fun h => by cases h⟩

theorem proved_of6 (hw6 : Walk6) : Rows.FnCoverResourceOneGrantClosedFormSaid :=
  OpenClaim.holds_of_wide 6 Try.f6 rfl rfl rfl rfl rfl rfl rfl ⟨rfl, rfl, rfl, rfl, rfl⟩ rfl rfl rfl rfl rfl (by kernel_rfl) Try.func6 (by kernel_rfl)
    (of_decide_eq_true (by kernel_rfl)) (by unfold Func.isWrapper; first | (rw [if_pos (by decide +kernel)]; kernel_rfl) | (rw [if_neg (by decide +kernel)]; exact ⟨rfl, rfl⟩))
    (fun os started H enc _ => lifted6 hw6 os started H enc)
end Go.Proofs.Qxb6606073a
