import Derived.Test.Qxb6605763aDoorRows
import Derived.Test.Qxb6605763aDoorTie
import Derived.Test.Qxb6605763aDoorCards
import Derived.Test.Qxb6605763aDoorTwo
import Derived.ProofKit
import Derived.LaidMore
import Derived.OpenShut
import Derived.ShutString
import Derived.ChangeOld
import Derived.Stop.Joined
import Derived.Lib.LaidTab
import Derived.SevenTiedAt
namespace Go.Proofs.Qxb6605763aDoor.lawTwo
open Go.ChangeShapes Go.WideShapes Go.ChangeAt Go.RowKit
open Go.ChangeMaps (open_string shut_string)
set_option linter.unusedVariables false

theorem own : ownKnob Tryd.prog.godebug = none := by kernel_rfl
abbrev laid1 : List (String × DataW Unit) := Rows.fnNetHTTPTextHidesWhichPasswordRow.laid
/-- The listed variable's name, as the row has it. -/
abbrev nm : String := (laid1.map (fun x => x.1)).headD default
theorem gTab : Tryd.prog.globalNamed nm = some 0 := by kernel_rfl
theorem tTab : (Tryd.prog.globals[0]?).map (·.type) = some 70 := by kernel_rfl
theorem cells54 : Tryd.prog.cellsOf 54 = 1 := by kernel_rfl
theorem cells70 : Tryd.prog.cellsOf 70 = 256 := by kernel_rfl

set_option maxRecDepth 100000 in
theorem datum : laid1 = [(nm, Lib.tabData .u8 (Plain.tab.map Int.ofNat))] := by kernel_rfl

theorem tab_of {W : World} (h : laidMetH Tryd.prog laid1 W) : Qxb6605763aDoor.W.Tab W ∧ 0 < W.heap.size := by
  rw [MakeChecks.laidMetH_plain _ _ _ (by kernel_rfl)] at h
  have h2 : laidMet Tryd.prog [(nm, Lib.tabData .u8 (Plain.tab.map Int.ofNat))] W := by rw [← datum]; exact h
  have hT := Lib.tabIs_of_head gTab tTab Tryd.underlying70 Tryd.underlying54 cells54 cells70 h2
  have hc : Qxb6605763aDoor.W.Tab W := fun i hi => by
    have := hT.cell gTab i (by rw [List.length_map, Plain.tab_len]; exact hi)
    rw [this]
    have hl : i < Plain.tab.length := by rw [Plain.tab_len]; exact hi
    simp [List.getD, hl]
  refine ⟨hc, ?_⟩
  have h0 := hc 0 (by omega)
  rcases Nat.eq_zero_or_pos W.heap.size with hz | hp
  · rw [World.cell?] at h0
    simp [Array.getElem?_eq_none (Nat.le_of_eq hz)] at h0
  · exact hp

theorem door_met (os : Os) (args : Array Value) : laidMetH Tryd.prog laid1 ((World.doorLaid Tryd.prog 14 os).forCall (fun _ _ => 0) ⟨#[], args, []⟩).memory :=
  laidMetH_of_parts3 (fuel := 8) (laidMet_of_run' 8 (by kernel_rfl) (by kernel_rfl)) (by kernel_rfl) (by kernel_rfl)

set_option maxRecDepth 100000 in
theorem lifted (os : Os) (started : os.Started) (H : Type) (enc : TypeId × Value → H) :
    ReturnsInHanded {} Tryd.checked os 4 .any (fun w args => (Rows.fnNetHTTPTextHidesWhichPasswordSpec.pre enc Tryd.prog Tryd.f4 [] false w args ∧ laidMetH Tryd.prog laid1 w) ∧ sizedMet enc Tryd.prog Tryd.f4 (OpenSpec.ofChange Rows.fnNetHTTPTextHidesWhichPasswordSpec) false w args)
      (Rows.fnNetHTTPTextHidesWhichPasswordSpec.post enc Tryd.prog Tryd.f4 false true false false) := by
  refine returnsInHanded_of_change_and (C := Tryd.checked) (X := fun w _ => laidMetH Tryd.prog laid1 w) (fun _ _ _ hh h => h.of_heap hh) own started (by kernel_rfl) Tryd.func4
    (ChangeSpec.witness_shaped (enc := enc) (C := Tryd.checked) (os := os) (X := fun w _ => laidMetH Tryd.prog laid1 w) false (World.doorLaid Tryd.prog 14 os) #[.string ByteArray.empty, .string ByteArray.empty, .string ByteArray.empty, .string ByteArray.empty, .string ByteArray.empty, .string ByteArray.empty, .string ByteArray.empty, .string ByteArray.empty, .string ByteArray.empty] 8 rfl (World.shaped_of_RefB (by kernel_rfl) (by kernel_rfl)) (by kernel_rfl) (by kernel_rfl) (by kernel_rfl) (door_met os _)) ?_
  intro W base args ds gs before hval0 hW _ _ hL _
  have hval : ∀ (j : Nat) t v, Tryd.f4.params[j]? = some t → args[j]? = some v → Value.okWide Tryd.prog W .any base t v := hval0
  have hW' := hW
  obtain ⟨p, q, hA0, hV, rfl, hfz, hnd⟩ := hW
  have hA : DataW.TrodAll enc Tryd.prog W 0 (fun _ => true) true Tryd.f4.params.toList args.toList ds p := hA0
  rw [Tryd.params4] at hA hval
  obtain ⟨v0, vs0, d0, ds0, p0, q0, hargs, rfl, rfl, h0, r0⟩ := trodAll_cons hA
  obtain ⟨v1, vs1, d1, ds1, p1, q1, rfl, rfl, rfl, h1, r1⟩ := trodAll_cons r0
  obtain ⟨v2, vs2, d2, ds2, p2, q2, rfl, rfl, rfl, h2, r2⟩ := trodAll_cons r1
  obtain ⟨v3, vs3, d3, ds3, p3, q3, rfl, rfl, rfl, h3, r3⟩ := trodAll_cons r2
  obtain ⟨v4, vs4, d4, ds4, p4, q4, rfl, rfl, rfl, h4, r4⟩ := trodAll_cons r3
  obtain ⟨v5, vs5, d5, ds5, p5, q5, rfl, rfl, rfl, h5, r5⟩ := trodAll_cons r4
  obtain ⟨v6, vs6, d6, ds6, p6, q6, rfl, rfl, rfl, h6, r6⟩ := trodAll_cons r5
  obtain ⟨v7, vs7, d7, ds7, p7, q7, rfl, rfl, rfl, h7, r7⟩ := trodAll_cons r6
  obtain ⟨v8, vs8, d8, ds8, p8, q8, rfl, rfl, rfl, h8, r8⟩ := trodAll_cons r7
  obtain ⟨rfl, rfl, rfl⟩ := trodAll_nil r8
  obtain rfl : args = #[v0, v1, v2, v3, v4, v5, v6, v7, v8] := by cases args; simp_all
  obtain ⟨rfl, rfl⟩ := trodVars_none hV
  obtain ⟨a0, rfl, rfl, rfl, w0⟩ := open_string Tryd.underlying9 (hval 0 9 v0 rfl rfl) h0
  obtain ⟨a1, rfl, rfl, rfl, w1⟩ := open_string Tryd.underlying9 (hval 1 9 v1 rfl rfl) h1
  obtain ⟨a2, rfl, rfl, rfl, w2⟩ := open_string Tryd.underlying9 (hval 2 9 v2 rfl rfl) h2
  obtain ⟨a3, rfl, rfl, rfl, w3⟩ := open_string Tryd.underlying9 (hval 3 9 v3 rfl rfl) h3
  obtain ⟨a4, rfl, rfl, rfl, w4⟩ := open_string Tryd.underlying9 (hval 4 9 v4 rfl rfl) h4
  obtain ⟨a5, rfl, rfl, rfl, w5⟩ := open_string Tryd.underlying9 (hval 5 9 v5 rfl rfl) h5
  obtain ⟨a6, rfl, rfl, rfl, w6⟩ := open_string Tryd.underlying9 (hval 6 9 v6 rfl rfl) h6
  obtain ⟨a7, rfl, rfl, rfl, w7⟩ := open_string Tryd.underlying9 (hval 7 9 v7 rfl rfl) h7
  obtain ⟨a8, rfl, rfl, rfl, w8⟩ := open_string Tryd.underlying9 (hval 8 9 v8 rfl rfl) h8
  obtain ⟨hT, hsz⟩ := tab_of hL
  clear hA0 hval0
  refine (Qxb6605763aDoor.W.walk4 a0 a1 a2 a3 a4 a5 a6 a7 a8 W hT hsz w0 w1 w2 w3 w4 w5 w6 w7 w8).mono fun e W' ⟨he, bel⟩ => ?_
  subst he
  exact ⟨_, rfl, _, _, _, [], _, [], hW', trodAll_mk1 (shut_bool Tryd.underlying4 _), (trodAll_cons_mk (shut_string Tryd.underlying9 w0) (trodAll_cons_mk (shut_string Tryd.underlying9 w1) (trodAll_cons_mk (shut_string Tryd.underlying9 w2) (trodAll_cons_mk (shut_string Tryd.underlying9 w3) (trodAll_cons_mk (shut_string Tryd.underlying9 w4) (trodAll_cons_mk (shut_string Tryd.underlying9 w5) (trodAll_cons_mk (shut_string Tryd.underlying9 w6) (trodAll_cons_mk (shut_string Tryd.underlying9 w7) (trodAll_cons_mk (shut_string Tryd.underlying9 w8) trodAll_mk0))))))))), rfl, bel.frame _, fun h => by cases h⟩

theorem over : Rows.FnNetHTTPTextHidesWhichPasswordSaid :=
  OpenClaim.holds_of_wide 4 Tryd.f4 rfl rfl rfl rfl rfl rfl rfl ⟨rfl, rfl, rfl, rfl, rfl⟩ rfl rfl rfl rfl rfl (by kernel_rfl) Tryd.func4 (by kernel_rfl)
    (of_decide_eq_true (by kernel_rfl)) (by unfold Func.isWrapper; first | (rw [if_pos (by decide +kernel)]; kernel_rfl) | (rw [if_neg (by decide +kernel)]; exact ⟨rfl, rfl⟩))
    (fun os started H enc _ => lifted os started H enc)

/-- ████ THE TIED CARD ████ -/
theorem proved : Rows.FnNetHTTPTextHidesWhichPasswordCardSaid :=
  Claim7.holds_tied_plain_at .later [] [.data] true (true, "1541fe08459fd64aec1d0ca98dcdefae981afbde23789be55cb78e8230a9ebda") false
    over (fun _ h => by cases h) (by kernel_rfl) (fun _ h => by cases h) fnNetHTTPTextHidesWhichPassword_row_tie rfl ⟨rfl, rfl⟩ (by kernel_rfl) rfl
    (fun f fn hf hfn => by
      obtain rfl : f = 4 := Option.some.inj ((show Tryd.prog.funcNamed Rows.fnNetHTTPTextHidesWhichPasswordRow.func = some 4 by kernel_rfl).symm.trans hf) |>.symm
      obtain rfl : fn = Tryd.f4 := (Option.some.inj (Tryd.func4.symm.trans hfn)).symm
      exact ⟨by kernel_rfl, fun j t ht => by
        rw [Tryd.params4] at ht
        have hm : t ∈ [9] := by
          have := Array.mem_of_getElem? ht
          simpa using this
        have hall : ([9].all fun u => !Tryd.prog.wantsStandIn u) = true := by kernel_rfl
        exact (show Tryd.prog.wantsStandIn t = false by simpa using List.all_eq_true.1 hall t hm)⟩)
    (by kernel_rfl)

end Go.Proofs.Qxb6605763aDoor.lawTwo
