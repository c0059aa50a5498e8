import Derived.Test.Qxb6605763aDoorStrA
namespace Go.Proofs.Qxb6605763aDoor.W
open Go.RowKit
open Plain
set_option linter.unusedVariables false

set_option maxHeartbeats 4000000 in
set_option maxRecDepth 100000 in
theorem string_opq {w : World} {b a : Nat} {sc op ho pa fr rq us pw : ByteArray} {st : Bool} (h : UrlAt w b sc op a ho pa fr rq) (hu : UserAt w a us pw st) (ht : Tab w)
    (b0 : sc.size ≤ 1048576) (b1 : op.size ≤ 1048576) (b2 : us.size ≤ 1048576) (b3 : pw.size ≤ 1048576) (b4 : ho.size ≤ 1048576) (b5 : pa.size ≤ 1048576) (b6 : fr.size ≤ 1048576) (b7 : rq.size ≤ 1048576) (hop : op.toList.isEmpty = false) :
    Calls Tryd.prog 17 #[.pointer (some ⟨b, 0, none⟩)] w fun e w' => e = .returned (.string ⟨(urlT sc.data.toList op.data.toList (infoT st us.data.toList pw.data.toList) ho.data.toList pa.data.toList rq.data.toList fr.data.toList).toArray⟩) ∧ Below w.heap.size w w' := by
  have HL := h.later
  have c0 : ∀ W, Below w.heap.size w W → W.cell? ⟨b, 0, none⟩ = some (.string sc) := fun W hW => (HL W hW).c0
  have c1 : ∀ W, Below w.heap.size w W → W.cell? ⟨b, 1, none⟩ = some (.string op) := fun W hW => (HL W hW).c1
  have c2 : ∀ W, Below w.heap.size w W → W.cell? ⟨b, 2, none⟩ = some (.pointer (some ⟨a, 0, none⟩)) := fun W hW => (HL W hW).c2
  have c3 : ∀ W, Below w.heap.size w W → W.cell? ⟨b, 3, none⟩ = some (.string ho) := fun W hW => (HL W hW).c3
  have c4 : ∀ W, Below w.heap.size w W → W.cell? ⟨b, 4, none⟩ = some (.string pa) := fun W hW => (HL W hW).c4
  have c5 : ∀ W, Below w.heap.size w W → W.cell? ⟨b, 5, none⟩ = some (.string fr) := fun W hW => (HL W hW).c5
  have c6 : ∀ W, Below w.heap.size w W → W.cell? ⟨b, 6, none⟩ = some (.string rq) := fun W hW => (HL W hW).c6
  have c8 : ∀ W, Below w.heap.size w W → W.cell? ⟨b, 8, none⟩ = some (.string ⟨#[]⟩) := fun W hW => (HL W hW).c8
  have c9 : ∀ W, Below w.heap.size w W → W.cell? ⟨b, 9, none⟩ = some (.bool false) := fun W hW => (HL W hW).c9
  have c10 : ∀ W, Below w.heap.size w W → W.cell? ⟨b, 10, none⟩ = some (.bool false) := fun W hW => (HL W hW).c10
  clear HL
  have hA : Below w.heap.size w (w.alloc (.cells #[.pointer none, .slice none 0 0] 46)) := (Below.refl _ _).alloc (Nat.le_refl _) _
  have h0 : 0 < w.heap.size := by have := h.lt; omega
  have ufac : ∀ W, Below w.heap.size w W → UserAt W a us pw st := fun W hW => hu.below hW hu.lt
  go_enter Tryd.func17, Tryd.ntmps17
  go_wp2_with fail
  go_quiet (fail)
  go_wp2_with fail
  have eN : ((sc.size : Int) + op.size + (rq.size : Int) + 12) = ((sc.size + op.size + rq.size + 12 : Nat) : Int) := by omega
  rw [eN]
  refine (bld_grow_drew (sc.size + op.size + rq.size + 12) w _ (by omega)).mono ?_
  rintro e W1 ⟨rfl, hB1⟩
  have hb1 := hB1.bel
  clear eN
  have hpre := preT_len sc b0
  go_upto_if 111 with fail
  go_cut [] from 111 to 117 (fun wx => Bld w (preT sc.data.toList) wx)
  case first =>
    cases hsc : sc.toList.isEmpty
    · have hp : preT sc.data.toList = sc.data.toList ++ [58] := by unfold preT; rw [← Lib.toList_data, hsc]; rfl
      go_wp2_with fail
      refine (bld_str hB1 sc (by simp; omega)).mono ?_
      rintro e W2 ⟨rfl, hB2⟩
      go_wp2_with fail
      refine (bld_byte hB2 58 58 rfl (by simp; omega)).mono ?_
      rintro e W3 ⟨rfl, hB3⟩
      go_wp2_with fail
      go_meet
      case rel => rw [hp]; simpa using hB3
    · have hp : preT sc.data.toList = [] := by unfold preT; rw [← Lib.toList_data, hsc]; rfl
      go_wp2_with fail
      go_meet
      case rel => rw [hp]; exact hB1
  case rest =>
    obtain ⟨W2, rfl⟩ : ∃ W2, W2 = wc := ⟨_, rfl⟩
    have hb2 := hcut.bel
    have hB2 := hcut
    clear hcut
    go_wp2_with fail
    refine (bld_str hB2 op (by omega)).mono ?_
    rintro e Wd ⟨rfl, hBd⟩
    have hbd := hBd.bel
    clear hB2 hb2
    generalize hac3 : preT sc.data.toList ++ op.data.toList = ac3 at *
    have hal3 : ac3.length ≤ 24000000 := by rw [← hac3]; simp; omega
    have HA3 : Hid (preT sc.data.toList ++ op.data.toList = ac3) := hac3
    clear hac3
    go_upto_if 269 with fail
    go_cut [] from 268 to 275 (fun wx => Bld w (ac3 ++ queryT rq.data.toList) wx)
    case first =>
      cases hrq : rq.toList.isEmpty
      · have hp : queryT rq.data.toList = 63 :: rq.data.toList := by unfold queryT; rw [← Lib.toList_data, hrq]; rfl
        go_wp2_with fail
        refine (bld_byte hBd 63 63 rfl (by omega)).mono ?_
        rintro e We ⟨rfl, hBe⟩
        have hbe := hBe.bel
        go_wp2_with fail
        refine (bld_str hBe rq (by simp; omega)).mono ?_
        rintro e Wf ⟨rfl, hBf⟩
        go_wp2_with fail
        go_meet
        case rel => rw [hp]; simpa using hBf
      · have hp : queryT rq.data.toList = [] := by unfold queryT; rw [← Lib.toList_data, hrq]; rfl
        go_wp2_with fail
        go_meet
        case rel => rw [hp]; simpa using hBd
    case rest =>
      obtain ⟨Wg, rfl⟩ : ∃ Wg, Wg = wc := ⟨_, rfl⟩
      have hBg := hcut
      have hbg := hBg.bel
      clear hcut hBd hbd
      have hql : (queryT rq.data.toList).length ≤ 1048577 := by
        have := Lib.size_eq rq
        unfold queryT; split <;> simp <;> omega
      go_upto_if 280 with fail
      go_cut [] from 280 to 284 (fun wx => Bld w (ac3 ++ queryT rq.data.toList ++ fragT fr.data.toList) wx)
      case first =>
        cases hfr : fr.toList.isEmpty
        · have hp : fragT fr.data.toList = 35 :: esc 64 fr.data.toList := by unfold fragT; rw [← Lib.toList_data, hfr]; rfl
          have hel := esc_bound 64 fr b6
          go_wp2_with fail
          refine (bld_byte hBg 35 35 rfl (by simp; omega)).mono ?_
          rintro e Wh ⟨rfl, hBh⟩
          have hbh := hBh.bel
          go_wp2_with fail
          refine (escFrag (h.later _ hbh) (ht.below hbh h0) b6).mono ?_
          rintro e Wi ⟨rfl, hxi⟩
          have hBi := hBh.other hxi
          go_wp2_with fail
          refine (bld_list hBi _ (by simp; omega)).mono ?_
          rintro e Wj ⟨rfl, hBj⟩
          go_wp2_with fail
          go_meet
          case rel => rw [hp]; simpa using hBj
        · have hp : fragT fr.data.toList = [] := by unfold fragT; rw [← Lib.toList_data, hfr]; rfl
          go_wp2_with fail
          go_meet
          case rel => rw [hp]; simpa using hBg
      case rest =>
        obtain ⟨Wk, rfl⟩ : ∃ Wk, Wk = wc := ⟨_, rfl⟩
        go_wp2_with fail
        refine (bld_string hcut).mono ?_
        rintro e Wl ⟨rfl, hbl⟩
        go_wp2_with fail
        go_ret
        refine ⟨ret_list ?_, hbl⟩
        rw [← HA3.out]
        simp [urlT, ← Lib.toList_data op, hop]
end Go.Proofs.Qxb6605763aDoor.W
