import Derived.Test.Qxb6605763aDoorStrA
namespace Go.Proofs.Qxb6605763aDoor.W
open Go.RowKit
open Plain
set_option linter.unusedVariables false

set_option maxHeartbeats 4000000 in
set_option maxRecDepth 100000 in
theorem string_plain {w : World} {b a : Nat} {sc op ho pa fr rq us pw : ByteArray} {st : Bool} (h : UrlAt w b sc op a ho pa fr rq) (hu : UserAt w a us pw st) (ht : Tab w)
    (b0 : sc.size ≤ 1048576) (b1 : op.size ≤ 1048576) (b2 : us.size ≤ 1048576) (b3 : pw.size ≤ 1048576) (b4 : ho.size ≤ 1048576) (b5 : pa.size ≤ 1048576) (b6 : fr.size ≤ 1048576) (b7 : rq.size ≤ 1048576) (hop : op.toList.isEmpty = true) :
    Calls Tryd.prog 17 #[.pointer (some ⟨b, 0, none⟩)] w fun e w' => e = .returned (.string ⟨(urlT sc.data.toList op.data.toList (infoT st us.data.toList pw.data.toList) ho.data.toList pa.data.toList rq.data.toList fr.data.toList).toArray⟩) ∧ Below w.heap.size w w' := by
  have HL := h.later
  have c0 : ∀ W, Below w.heap.size w W → W.cell? ⟨b, 0, none⟩ = some (.string sc) := fun W hW => (HL W hW).c0
  have c1 : ∀ W, Below w.heap.size w W → W.cell? ⟨b, 1, none⟩ = some (.string op) := fun W hW => (HL W hW).c1
  have c2 : ∀ W, Below w.heap.size w W → W.cell? ⟨b, 2, none⟩ = some (.pointer (some ⟨a, 0, none⟩)) := fun W hW => (HL W hW).c2
  have c3 : ∀ W, Below w.heap.size w W → W.cell? ⟨b, 3, none⟩ = some (.string ho) := fun W hW => (HL W hW).c3
  have c4 : ∀ W, Below w.heap.size w W → W.cell? ⟨b, 4, none⟩ = some (.string pa) := fun W hW => (HL W hW).c4
  have c5 : ∀ W, Below w.heap.size w W → W.cell? ⟨b, 5, none⟩ = some (.string fr) := fun W hW => (HL W hW).c5
  have c6 : ∀ W, Below w.heap.size w W → W.cell? ⟨b, 6, none⟩ = some (.string rq) := fun W hW => (HL W hW).c6
  have c8 : ∀ W, Below w.heap.size w W → W.cell? ⟨b, 8, none⟩ = some (.string ⟨#[]⟩) := fun W hW => (HL W hW).c8
  have c9 : ∀ W, Below w.heap.size w W → W.cell? ⟨b, 9, none⟩ = some (.bool false) := fun W hW => (HL W hW).c9
  have c10 : ∀ W, Below w.heap.size w W → W.cell? ⟨b, 10, none⟩ = some (.bool false) := fun W hW => (HL W hW).c10
  clear HL
  have hA : Below w.heap.size w (w.alloc (.cells #[.pointer none, .slice none 0 0] 46)) := (Below.refl _ _).alloc (Nat.le_refl _) _
  have h0 : 0 < w.heap.size := by have := h.lt; omega
  have ufac : ∀ W, Below w.heap.size w W → UserAt W a us pw st := fun W hW => hu.below hW hu.lt
  go_enter Tryd.func17, Tryd.ntmps17
  go_upto_region 5 with fail
  go_cut [56] from 40 to 55 (fun v wx => v = .bool true ∧ (w.alloc (.cells #[.pointer none, .slice none 0 0] 46)) = wx)
  case first =>
    go_wp2_with fail
    all_goals
      go_meet
      case rel => exact ⟨rfl, rfl⟩
  case rest =>
    obtain ⟨rfl, rfl⟩ := hcut
    go_wp2_with (first | (go_at_call 22; refine (username (ufac _ hA)).mono ?_; rintro e w' ⟨rfl, rfl⟩) | (go_at_call 20; refine (password (ufac _ hA)).mono ?_; rintro e w' ⟨rfl, q, rfl⟩))
    go_quiet (fail)
    go_wp2_with fail
    have eN : ((sc.size : Int) + ((us.size : Int) + pw.size + ho.size) + pa.size + (rq.size : Int) + 12) = ((sc.size + (us.size + pw.size + ho.size) + pa.size + rq.size + 12 : Nat) : Int) := by omega
    rw [eN]
    refine (bld_grow_drew (sc.size + (us.size + pw.size + ho.size) + pa.size + rq.size + 12) w _ (by omega)).mono ?_
    rintro e W1 ⟨rfl, hB1⟩
    have hb1 := hB1.bel
    clear eN
    have hpre := preT_len sc b0
    go_upto_if 111 with fail
    go_cut [] from 111 to 117 (fun wx => Bld w (preT sc.data.toList) wx)
    case first =>
      cases hsc : sc.toList.isEmpty
      · have hp : preT sc.data.toList = sc.data.toList ++ [58] := by unfold preT; rw [← Lib.toList_data, hsc]; rfl
        go_wp2_with fail
        refine (bld_str hB1 sc (by simp; omega)).mono ?_
        rintro e W2 ⟨rfl, hB2⟩
        go_wp2_with fail
        refine (bld_byte hB2 58 58 rfl (by simp; omega)).mono ?_
        rintro e W3 ⟨rfl, hB3⟩
        go_wp2_with fail
        go_meet
        case rel => rw [hp]; simpa using hB3
      · have hp : preT sc.data.toList = [] := by unfold preT; rw [← Lib.toList_data, hsc]; rfl
        go_wp2_with fail
        go_meet
        case rel => rw [hp]; exact hB1
    case rest =>
      obtain ⟨W2, rfl⟩ : ∃ W2, W2 = wc := ⟨_, rfl⟩
      have hb2 := hcut.bel
      have hB2 := hcut
      clear hcut
      go_upto_region 18 with fail
      go_cut [146] from 132 to 145 (fun v wx => v = .bool true ∧ W2 = wx)
      case first =>
        go_wp2_with fail
        all_goals
          go_meet
          case rel => exact ⟨rfl, rfl⟩
      case rest =>
        obtain ⟨rfl, rfl⟩ := hcut
        go_upto_region 20 with fail
        go_cut [183] from 168 to 182 (fun v wx => v = .bool true ∧ W2 = wx)
        case first =>
          go_wp2_with fail
          all_goals
            go_meet
            case rel => exact ⟨rfl, rfl⟩
        case rest =>
          obtain ⟨rfl, rfl⟩ := hcut
          have hinf := infoT_len st us pw b2 b3
          have hhos := hostT_len ho b4
          have hpal := pathE_len pa b5
          go_wp2_with fail
          refine (bld_str hB2 ⟨#[47, 47]⟩ (by show _ + 2 ≤ _; omega)).mono ?_
          rintro e W3 ⟨rfl, hB3⟩
          have hb3 := hB3.bel
          go_wp2_with fail
          refine (info_any (ufac _ hb3) (ht.below hb3 h0) b2 b3).mono ?_
          rintro e W4 ⟨rfl, hx4⟩
          have hB4 := hB3.other hx4
          have hb4 := hB4.bel
          go_wp2_with fail
          refine (bld_list hB4 _ (by simp; omega)).mono ?_
          rintro e W5 ⟨rfl, hB5⟩
          have hb5 := hB5.bel
          go_wp2_with fail
          refine (bld_byte hB5 64 64 rfl (by simp; omega)).mono ?_
          rintro e W6 ⟨rfl, hB6⟩
          have hb6 := hB6.bel
          go_upto_if 200 with fail
          go_cut [] from 200 to 203 (fun wx => Bld w (preT sc.data.toList ++ [47, 47] ++ infoT st us.data.toList pw.data.toList ++ [64] ++ hostT ho.data.toList) wx)
          case first =>
            cases hho : ho.toList.isEmpty
            · have hp : hostT ho.data.toList = esc 4 ho.data.toList := by unfold hostT; rw [← Lib.toList_data, hho]; rfl
              have hel := esc_bound 4 ho b4
              go_wp2_with fail
              refine (escape_any ho 4 _ (by omega) (by omega) (ht.below hb6 h0) (by have := hb6.size; omega) b4).mono ?_
              rintro e W7 ⟨rfl, hx7⟩
              have hB7 := hB6.other hx7
              go_wp2_with fail
              refine (bld_list hB7 _ (by simp; omega)).mono ?_
              rintro e W8 ⟨rfl, hB8⟩
              go_wp2_with fail
              go_meet
              case rel => rw [hp]; simpa using hB8
            · have hp : hostT ho.data.toList = [] := by unfold hostT; rw [← Lib.toList_data, hho]; rfl
              go_wp2_with fail
              go_meet
              case rel => rw [hp]; simpa using hB6
          case rest =>
            obtain ⟨W8, rfl⟩ : ∃ W8, W8 = wc := ⟨_, rfl⟩
            have hB8 := hcut
            have hb8 := hB8.bel
            clear hcut hB2 hB3 hB4 hB5 hB6 hb2 hb3 hb4 hb5 hb6 hx4
            generalize hacc : preT sc.data.toList ++ [47, 47] ++ infoT st us.data.toList pw.data.toList ++ [64] ++ hostT ho.data.toList = acc at *
            have hal : acc.length ≤ 20000000 := by rw [← hacc]; simp; omega
            have ha0 : ((acc.length : Int) == 0) = false := beq_eq_false_iff_ne.2 (by rw [← hacc]; simp; omega)
            have HA : Hid (preT sc.data.toList ++ [47, 47] ++ infoT st us.data.toList pw.data.toList ++ [64] ++ hostT ho.data.toList = acc) := hacc
            clear hacc
            go_wp2_with fail
            refine (escPath (h.later _ hb8) (ht.below hb8 h0) b5).mono ?_
            rintro e W9 ⟨rfl, hx9⟩
            have hB9 := hB8.other hx9
            have hb9 := hB9.bel
            clear hB8 hb8 hx9
            obtain ⟨pb, hpb⟩ : ∃ pb : ByteArray, (⟨(pathE pa.data.toList).toArray⟩ : ByteArray) = pb := ⟨_, rfl⟩
            have HP : Hid (pb.data.toList = pathE pa.data.toList) := by rw [← hpb]; rfl
            have hps : pb.size ≤ 3145728 := by rw [Lib.size_eq, HP.out]; exact hpal
            rw [hpb]
            clear hpb
            go_upto_region 33 with fail
            go_cut [244] from 232 to 243 (fun v wx => v = .bool (slashB ho.data.toList pb.data.toList) ∧ W9 = wx)
            case first =>
              by_cases hpz : pb.size = 0
              · have he : pb.toList.isEmpty = true := ba_empty hpz
                have hsv := slash_empty ho he
                clear hpz
                go_wp2_with fail
                go_meet
                case rel => exact ⟨by rw [hsv], rfl⟩
              · have hp0 : 0 < pb.size := by omega
                have he : pb.toList.isEmpty = false := ba_nonempty hp0
                clear hpz
                cases h47 : ((pb[0].toNat : Int) != 47)
                · have hsv := slash_47 ho hp0 h47
                  go_wp2_with fail
                  go_meet
                  case rel => exact ⟨by rw [hsv], rfl⟩
                · have hsv := slash_other ho hp0 h47
                  go_wp2_with fail
                  go_meet
                  case rel => exact ⟨by rw [hsv], rfl⟩
            case rest =>
              obtain ⟨rfl, rfl⟩ := hcut
              go_upto_if 244 with fail
              go_cut [] from 244 to 245 (fun wx => Bld w (acc ++ (if slashB ho.data.toList pb.data.toList then [47] else [])) wx)
              case first =>
                cases hsl : slashB ho.data.toList pb.data.toList
                · go_wp2_with fail
                  go_meet
                  case rel => rw [hsl]; simpa using hB9
                · go_wp2_with fail
                  refine (bld_byte hB9 47 47 rfl (by omega)).mono ?_
                  rintro e Wa ⟨rfl, hBa⟩
                  go_wp2_with fail
                  go_meet
                  case rel => rw [hsl]; simpa using hBa
              case rest =>
                obtain ⟨Wb, rfl⟩ : ∃ Wb, Wb = wc := ⟨_, rfl⟩
                have hBb := hcut
                have hbb := hBb.bel
                clear hcut hB9 hb9
                generalize hac2 : acc ++ (if slashB ho.data.toList pb.data.toList then [47] else []) = ac2 at *
                have hal2 : ac2.length ≤ 20000001 := by rw [← hac2]; split <;> simp <;> omega
                have ha2 : ((ac2.length : Int) == 0) = false := by
                  have h1 : acc.length ≠ 0 := by have := beq_eq_false_iff_ne.1 ha0; omega
                  exact beq_eq_false_iff_ne.2 (by rw [← hac2]; simp; omega)
                have HA2 : Hid (acc ++ (if slashB ho.data.toList pb.data.toList then [47] else []) = ac2) := hac2
                clear hac2 ha0
                go_wp2_with fail
                refine (bld_len hBb).mono ?_
                rintro e Wc ⟨rfl, rfl⟩
                go_wp2_with fail
                refine (bld_str hBb pb (by omega)).mono ?_
                rintro e Wd ⟨rfl, hBd⟩
                have hbd := hBd.bel
                clear hBb hbb
                generalize hac3 : ac2 ++ pb.data.toList = ac3 at *
                have hal3 : ac3.length ≤ 24000000 := by rw [← hac3]; simp; omega
                have HA3 : Hid (ac2 ++ pb.data.toList = ac3) := hac3
                clear hac3
                go_upto_if 269 with fail
                go_cut [] from 268 to 275 (fun wx => Bld w (ac3 ++ queryT rq.data.toList) wx)
                case first =>
                  cases hrq : rq.toList.isEmpty
                  · have hp : queryT rq.data.toList = 63 :: rq.data.toList := by unfold queryT; rw [← Lib.toList_data, hrq]; rfl
                    go_wp2_with fail
                    refine (bld_byte hBd 63 63 rfl (by omega)).mono ?_
                    rintro e We ⟨rfl, hBe⟩
                    have hbe := hBe.bel
                    go_wp2_with fail
                    refine (bld_str hBe rq (by simp; omega)).mono ?_
                    rintro e Wf ⟨rfl, hBf⟩
                    go_wp2_with fail
                    go_meet
                    case rel => rw [hp]; simpa using hBf
                  · have hp : queryT rq.data.toList = [] := by unfold queryT; rw [← Lib.toList_data, hrq]; rfl
                    go_wp2_with fail
                    go_meet
                    case rel => rw [hp]; simpa using hBd
                case rest =>
                  obtain ⟨Wg, rfl⟩ : ∃ Wg, Wg = wc := ⟨_, rfl⟩
                  have hBg := hcut
                  have hbg := hBg.bel
                  clear hcut hBd hbd
                  have hql : (queryT rq.data.toList).length ≤ 1048577 := by
                    have := Lib.size_eq rq
                    unfold queryT; split <;> simp <;> omega
                  go_upto_if 280 with fail
                  go_cut [] from 280 to 284 (fun wx => Bld w (ac3 ++ queryT rq.data.toList ++ fragT fr.data.toList) wx)
                  case first =>
                    cases hfr : fr.toList.isEmpty
                    · have hp : fragT fr.data.toList = 35 :: esc 64 fr.data.toList := by unfold fragT; rw [← Lib.toList_data, hfr]; rfl
                      have hel := esc_bound 64 fr b6
                      go_wp2_with fail
                      refine (bld_byte hBg 35 35 rfl (by simp; omega)).mono ?_
                      rintro e Wh ⟨rfl, hBh⟩
                      have hbh := hBh.bel
                      go_wp2_with fail
                      refine (escFrag (h.later _ hbh) (ht.below hbh h0) b6).mono ?_
                      rintro e Wi ⟨rfl, hxi⟩
                      have hBi := hBh.other hxi
                      go_wp2_with fail
                      refine (bld_list hBi _ (by simp; omega)).mono ?_
                      rintro e Wj ⟨rfl, hBj⟩
                      go_wp2_with fail
                      go_meet
                      case rel => rw [hp]; simpa using hBj
                    · have hp : fragT fr.data.toList = [] := by unfold fragT; rw [← Lib.toList_data, hfr]; rfl
                      go_wp2_with fail
                      go_meet
                      case rel => rw [hp]; simpa using hBg
                  case rest =>
                    obtain ⟨Wk, rfl⟩ : ∃ Wk, Wk = wc := ⟨_, rfl⟩
                    go_wp2_with fail
                    refine (bld_string hcut).mono ?_
                    rintro e Wl ⟨rfl, hbl⟩
                    go_wp2_with fail
                    go_ret
                    refine ⟨ret_list ?_, hbl⟩
                    rw [← HA3.out, ← HA2.out, ← HA.out, HP.out]
                    simp [urlT, restT, pathT, ← Lib.toList_data op, hop]
end Go.Proofs.Qxb6605763aDoor.W
