import Derived.Test.Qxb6606073aRd
import Derived.Deep.Slices
import Derived.Test.Qxb6606073aFrame
namespace Go.Proofs.Qxb6606073a
open Go.ChangeShapes Go.WideShapes Go.ChangeAt Go.RowKit
open Go.ChangeMaps (open_string shut_string)
set_option linter.unusedVariables false
set_option linter.unusedSimpArgs false

theorem cells25 : Try.prog.cellsOf 25 = 6 := by kernel_rfl
theorem cells23 : Try.prog.cellsOf 23 = 1 := by kernel_rfl
theorem cells4' : Try.prog.cellsOf 4 = 1 := by kernel_rfl

/-- What the walk says of the law's call. -/
def Walk3 : Prop := ∀ (rs : Value) (ds : List W.Rd) (e : W.El) (d : W.Rd) (w : World), W.RulesAt rs ds w → W.RuleV e d w →
    Calls Try.prog 3 #[rs, .agg #[e.c0, e.c1, e.c2, e.c3, e.c4, .bool e.an]] w fun en w' => en = .returned (.bool true) ∧ Below w.heap.size w w'

theorem strs_open {H : Type} {enc : TypeId × Value → H} {Z : World} {fuel : Nat} {v : Value} {x : DataW H × List MemPlace} (hf : DataW.trod enc Try.prog Z 0 (fun _ => true) true fuel 23 [v] = some x) : ∃ ss, StrsAt v ss Z := by
  rcases open_strings Try.underlying23 Try.underlying9 cells9 hf with ⟨hcs, hx⟩ | ⟨a, len', cap', ss, hcs, _, hl, hm, hz, hx, hcell, hws⟩
  · exact ⟨[], .inl ⟨by simpa using hcs, rfl⟩⟩
  · have e1 : v = .slice (some a) len' cap' := by simpa using hcs
    have hz' : ss.length = cap' := by simpa using hz
    have hl2 : (ss.take len').length = len' := by rw [List.length_take]; omega
    refine ⟨ss.take len', .inr ⟨a, cap', ?_, by omega, hm, ?_, fun s hs => hws s (List.mem_of_mem_take hs)⟩⟩
    · rw [hl2]; exact e1
    · intro i hi
      rw [hl2] at hi
      rw [hcell i (by omega)]
      simp [List.getD, hi]

set_option maxRecDepth 100000 in
theorem rule_open {H : Type} {enc : TypeId × Value → H} {Z : World} {fuel : Nat} {cs : List Value} {x : DataW H × List MemPlace} (hf : DataW.trod enc Try.prog Z 0 (fun _ => true) true fuel 25 cs = some x) : ∃ e d, cs = W.El.cells e ∧ W.RuleV e d Z := by
  obtain ⟨xs, n, _, _, hl, hlen, hfs⟩ := DataW.trod_struct Try.underlying25 hf
  rw [cells25] at hl
  have g0 := hfs 0 _ rfl
  have g1 := hfs 1 _ rfl
  have g2 := hfs 2 _ rfl
  have g3 := hfs 3 _ rfl
  have g4 := hfs 4 _ rfl
  have g5 := hfs 5 _ rfl
  match cs, hl with
  | [v0, v1, v2, v3, v4, v5], _ =>
  match xs, hlen with
  | [y0, y1, y2, y3, y4, y5], _ =>
  simp [cells23, cells4'] at g0 g1 g2 g3 g4 g5
  obtain ⟨s0, h0⟩ := strs_open g0
  obtain ⟨s1, h1⟩ := strs_open g1
  obtain ⟨s2, h2⟩ := strs_open g2
  obtain ⟨s3, h3⟩ := strs_open g3
  obtain ⟨s4, h4⟩ := strs_open g4
  obtain ⟨b, h5, _⟩ := DataW.trod_bool Try.underlying4 g5
  obtain rfl : v5 = .bool b := by simpa using h5
  exact ⟨⟨v0, v1, v2, v3, v4, b⟩, ⟨s0, s1, s2, s3, s4, b⟩, rfl, h0, h1, h2, h3, h4, rfl⟩

theorem cells_get {w : World} {base n : Nat} {a : Addr} {cs : List Value} (h : w.cells? base a n = some cs) (j : Nat) (v : Value) (hj : cs[j]? = some v) : w.cell? (a.add j) = some v := by
  unfold World.cells? at h
  split at h
  · have hl := mapM_some_length h
    have hjn : j < n := by
      have := (List.getElem?_eq_some_iff.1 hj).1
      simpa [hl] using this
    have := mapM_some_get h j j (by simp [hjn])
    rw [this, hj]
  · cases h

theorem spot_none {w : World} {a : Addr} {v : Value} (h : w.cell? a = some v) : a = ⟨a.block, a.off, none⟩ := by
  obtain ⟨b, o, s⟩ := a
  cases s with
  | none => rfl
  | some s =>
    unfold World.cell? at h
    split at h <;> simp at h

set_option maxRecDepth 100000 in
theorem rules_open {H : Type} {enc : TypeId × Value → H} {Z : World} {fuel : Nat} {v : Value} {x : DataW H × List MemPlace} (hf : DataW.trod enc Try.prog Z 0 (fun _ => true) true fuel 22 [v] = some x) : ∃ ds, W.RulesAt v ds Z := by
  rcases Go.Deep.open_slice Try.underlying22 hf with ⟨hcs, hx⟩ | ⟨a, len, cap, m, n, D, Pl, hcs, _, hl, hm, hmm, hx, hcell⟩
  · refine ⟨[], none, 0, by simpa using hcs, Nat.le_refl _, by decide, fun _ => rfl, fun i d hd => by simp at hd⟩
  · have e1 : v = .slice (some a) len cap := by simpa using hcs
    have hmc : m = cap := by simpa using hmm
    subst hmc
    have each : ∀ i, ∃ p : W.El × W.Rd, i < len → ∃ b o, a = ⟨b, o, none⟩ ∧ Z.rangeAt b (o + i * 6) (W.El.cells p.1) ∧ W.RuleV p.1 p.2 Z := by
      intro i
      by_cases hi : i < len
      · have h0 : ∃ b o, a = ⟨b, o, none⟩ := by
          obtain ⟨cs0, g1, g2⟩ := hcell 0 (by omega)
          rw [cells25] at g1
          obtain ⟨e, d, g3, g4⟩ := rule_open g2
          subst g3
          have := cells_get g1 0 _ rfl
          have e2 : (a.add (0 * 6)).add 0 = a := by simp [Addr.add]
          rw [e2] at this
          exact ⟨_, _, spot_none this⟩
        obtain ⟨b, o, rfl⟩ := h0
        obtain ⟨cs', g1, g2⟩ := hcell i (by omega)
        rw [cells25] at g1
        obtain ⟨e, d, g3, g4⟩ := rule_open g2
        subst g3
        refine ⟨(e, d), fun _ => ⟨b, o, rfl, fun j u hu => ?_, g4⟩⟩
        have := cells_get g1 j u hu
        rwa [Addr.add_mid, Addr.add_mid] at this
      · exact ⟨(⟨.bool false, .bool false, .bool false, .bool false, .bool false, false⟩, ⟨[], [], [], [], [], false⟩), fun h => absurd h hi⟩
    obtain ⟨F, hF⟩ := Classical.axiomOfChoice each
    refine ⟨(List.range len).map (fun i => (F i).2), some a, m, by simpa using e1, by simpa using hl, hm, (fun h => nomatch h), fun i d hd => ?_⟩
    have hi : i < len := by
      have := (List.getElem?_eq_some_iff.1 hd).1
      simpa using this
    obtain ⟨b, o, e2, e3, e4⟩ := hF i hi
    simp [hi] at hd
    subst hd
    exact ⟨b, o, _, by rw [e2], e3, e4⟩

set_option maxRecDepth 100000 in
theorem lifted3 (hw3 : Walk3) (os : Os) (started : os.Started) (H : Type) (enc : TypeId × Value → H) :
    ReturnsInHanded {} Try.checked os 3 .any (Rows.fnAppendUncoveredWithNoScopeListsEveryTripleSpec.pre6 enc Try.prog Try.f3 Rows.fnAppendUncoveredWithNoScopeListsEveryTripleRow.domain false) (Rows.fnAppendUncoveredWithNoScopeListsEveryTripleSpec.post enc Try.prog Try.f3 false true false false) := by
  refine returnsInHanded_of_change (C := Try.checked) own started (by kernel_rfl) Try.func3
    (ChangeSpec.witness6 (enc := enc) (C := Try.checked) false ⟨#[], #[.slice none 0 0, .agg #[.slice none 0 0, .slice none 0 0, .slice none 0 0, .slice none 0 0, .slice none 0 0, .bool false]], []⟩ 8 (by kernel_rfl) (by kernel_rfl) (by kernel_rfl) (by kernel_rfl)) ?_
  intro Z base args ds gs before hval0 hW hcnd _
  have hval : ∀ (j : Nat) t v, Try.f3.params[j]? = some t → args[j]? = some v → Value.okWide Try.prog Z .any base t v := hval0
  have hW' := hW
  obtain ⟨p, q, hA0, hV, rfl, hfz, hnd⟩ := hW
  have hA : DataW.TrodAll enc Try.prog Z 0 (fun _ => true) true Try.f3.params.toList args.toList ds p := hA0
  rw [Try.params3] at hA hval
  obtain ⟨v0, vs0, d0, ds0, p0, q0, hargs, rfl, rfl, h0, r0⟩ := trodAll_cons hA
  obtain ⟨v1, vs1, d1, ds1, p1, q1, rfl, rfl, rfl, h1, r1⟩ := trodAll_cons r0
  obtain ⟨rfl, rfl, rfl⟩ := trodAll_nil r1
  obtain rfl : args = #[v0, v1] := by cases args; simp_all
  obtain ⟨rfl, rfl⟩ := trodVars_none hV
  obtain ⟨sa, len, cap, rfl⟩ := okWide_slice Try.underlying22 (hval 0 22 v0 rfl rfl)
  obtain ⟨cs, rfl, hcs⟩ := okWide_struct Try.underlying25 (hval 1 25 v1 rfl rfl)
  clear hA0 hval0
  have hlt0 : ∀ x ∈ p0, x.block < Z.heap.size := fun x hx => by
    have := hW'.lt x (by simp [hx])
    simpa using this
  have hlt1 : ∀ x ∈ p1, x.block < Z.heap.size := fun x hx => by
    have := hW'.lt x (by simp [hx])
    simpa using this
  obtain ⟨rds, hS⟩ : ∃ rds, W.RulesAt (.slice sa len cap) rds Z := by
    have h4k := h0
    obtain ⟨fuel, hf⟩ := h4k
    exact rules_open hf
  obtain ⟨e, d, hcse, hV1⟩ : ∃ e d, cs.toList = W.El.cells e ∧ W.RuleV e d Z := by
    have h4k := h1
    obtain ⟨fuel, hf⟩ := h4k
    exact rule_open hf
  obtain rfl : cs = #[e.c0, e.c1, e.c2, e.c3, e.c4, .bool e.an] := by
    cases cs
    simp only at hcse
    subst hcse
    rfl
  refine (hw3 _ rds e d Z hS hV1).mono fun en Z' ⟨he, bel⟩ => ?_
  subst he
  exact ⟨_, rfl, _, _, _, [], _, [], hW', trodAll_mk1 (shut_bool Try.underlying4 _), (trodAll_cons_mk (Below.trod laidOut (by kernel_rfl) (by decide +kernel) h0 bel hlt0) (trodAll_cons_mk (Below.trod laidOut (by kernel_rfl) (by decide +kernel) h1 bel hlt1) trodAll_mk0)), rfl, bel.frame _, fun h => by cases h⟩

theorem proved_of3 (hw3 : Walk3) : Rows.FnAppendUncoveredWithNoScopeListsEveryTripleSaid :=
  OpenClaim.holds_of_wide 3 Try.f3 rfl rfl rfl rfl rfl rfl rfl ⟨rfl, rfl, rfl, rfl, rfl⟩ rfl rfl rfl rfl rfl (by kernel_rfl) Try.func3 (by kernel_rfl)
    (of_decide_eq_true (by kernel_rfl)) (by unfold Func.isWrapper; first | (rw [if_pos (by decide +kernel)]; kernel_rfl) | (rw [if_neg (by decide +kernel)]; exact ⟨rfl, rfl⟩))
    (fun os started H enc _ => lifted3 hw3 os started H enc)
end Go.Proofs.Qxb6606073a
