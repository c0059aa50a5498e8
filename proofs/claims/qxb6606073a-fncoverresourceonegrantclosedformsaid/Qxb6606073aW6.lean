import Derived.Test.Qxb6606073aSix
namespace Go.Proofs.Qxb6606073a.W
open Go.RowKit
set_option linter.unusedVariables false
set_option linter.unusedSimpArgs false

/-- What the law lays ahead of build. -/
theorem rule_start (rv rg rr : ByteArray) (ra : Bool) (ao : Option Addr) (n cap : Nat) (w : World) :
    RuleAt (w.heap.size + 1 + 1 + 1 + 1 + 1) (w.heap.size + 1 + 1 + 1 + 1) w.heap.size (w.heap.size + 1) (w.heap.size + 1 + 1) rv rg rr ra ao n cap ((((((w.alloc (.cells #[.string rv] 9)).alloc (.cells #[.string rg] 9)).alloc (.cells #[.string rr] 9)).alloc (.cells #[.slice (some ⟨w.heap.size, 0, none⟩) 1 1, .slice (some ⟨w.heap.size + 1, 0, none⟩) 1 1, .slice (some ⟨w.heap.size + 1 + 1, 0, none⟩) 1 1, .slice ao n cap, .slice none 0 0, .bool ra] 25)).alloc (.cells #[.slice (some ⟨w.heap.size, 0, none⟩) 1 1, .slice (some ⟨w.heap.size + 1, 0, none⟩) 1 1, .slice (some ⟨w.heap.size + 1 + 1, 0, none⟩) 1 1, .slice ao n cap, .slice none 0 0, .bool ra] 25)).alloc (.cells #[.slice (some ⟨w.heap.size + 1 + 1 + 1 + 1, 0, none⟩) 1 1, .slice none 0 0] 55)) ∧ Below w.heap.size w ((((((w.alloc (.cells #[.string rv] 9)).alloc (.cells #[.string rg] 9)).alloc (.cells #[.string rr] 9)).alloc (.cells #[.slice (some ⟨w.heap.size, 0, none⟩) 1 1, .slice (some ⟨w.heap.size + 1, 0, none⟩) 1 1, .slice (some ⟨w.heap.size + 1 + 1, 0, none⟩) 1 1, .slice ao n cap, .slice none 0 0, .bool ra] 25)).alloc (.cells #[.slice (some ⟨w.heap.size, 0, none⟩) 1 1, .slice (some ⟨w.heap.size + 1, 0, none⟩) 1 1, .slice (some ⟨w.heap.size + 1 + 1, 0, none⟩) 1 1, .slice ao n cap, .slice none 0 0, .bool ra] 25)).alloc (.cells #[.slice (some ⟨w.heap.size + 1 + 1 + 1 + 1, 0, none⟩) 1 1, .slice none 0 0] 55)) := by
  have st : ∀ (W : World) (o : Obj), Below w.heap.size w W → Below w.heap.size w (W.alloc o) := fun W o h => h.alloc h.size o
  have g : ∀ (i : Nat) (x : Value), (#[.slice (some ⟨w.heap.size, 0, none⟩) 1 1, .slice (some ⟨w.heap.size + 1, 0, none⟩) 1 1, .slice (some ⟨w.heap.size + 1 + 1, 0, none⟩) 1 1, .slice ao n cap, .slice none 0 0, .bool ra] : Array Value)[i]? = some x → ((((((w.alloc (.cells #[.string rv] 9)).alloc (.cells #[.string rg] 9)).alloc (.cells #[.string rr] 9)).alloc (.cells #[.slice (some ⟨w.heap.size, 0, none⟩) 1 1, .slice (some ⟨w.heap.size + 1, 0, none⟩) 1 1, .slice (some ⟨w.heap.size + 1 + 1, 0, none⟩) 1 1, .slice ao n cap, .slice none 0 0, .bool ra] 25)).alloc (.cells #[.slice (some ⟨w.heap.size, 0, none⟩) 1 1, .slice (some ⟨w.heap.size + 1, 0, none⟩) 1 1, .slice (some ⟨w.heap.size + 1 + 1, 0, none⟩) 1 1, .slice ao n cap, .slice none 0 0, .bool ra] 25)).alloc (.cells #[.slice (some ⟨w.heap.size + 1 + 1 + 1 + 1, 0, none⟩) 1 1, .slice none 0 0] 55)).cell? ⟨w.heap.size + 1 + 1 + 1 + 1, i, none⟩ = some x := fun i x hx => lift1 (putA _ _ _ _ i x (by rw [szA, szA, szA, szA]) hx)
  exact ⟨⟨putA _ _ _ _ 0 _ (by rw [szA, szA, szA, szA, szA]) rfl, putA _ _ _ _ 1 _ (by rw [szA, szA, szA, szA, szA]) rfl, g 0 _ rfl, g 1 _ rfl, g 2 _ rfl, g 3 _ rfl, g 4 _ rfl, g 5 _ rfl,
    lift1 (lift1 (lift1 (lift1 (lift1 (putA _ _ _ _ 0 _ rfl rfl))))), lift1 (lift1 (lift1 (lift1 (putA _ _ _ _ 0 _ (by rw [szA]) rfl)))), lift1 (lift1 (lift1 (putA _ _ _ _ 0 _ (by rw [szA, szA]) rfl)))⟩,
    st _ _ (st _ _ (st _ _ (st _ _ (st _ _ (st _ _ (Below.refl _ _))))))⟩

set_option maxRecDepth 100000 in
set_option maxHeartbeats 4000000 in
theorem law_main (rv rg rr : ByteArray) (ra : Bool) (ns : Value) (ss : List ByteArray) (v g r : ByteArray) (an : Bool) (nm : ByteArray) (nd : Bool) (w : World)
    (h0 : rv.size ≤ maxLen) (h1 : rg.size ≤ maxLen) (h2 : rr.size ≤ maxLen) (h3 : v.size ≤ maxLen) (h4 : g.size ≤ maxLen) (h5 : r.size ≤ 4096) (h6 : nm.size ≤ maxLen) (hS : StrsAt ns ss w) :
    Calls Try.prog 6 #[.string rv, .string rg, .string rr, .bool ra, ns, .string v, .string g, .string r, .bool an, .string nm, .bool nd] w fun e w' => e = .returned (.bool true) ∧ Below w.heap.size w w' := by
  have h5' : r.size ≤ maxLen := by unfold maxLen; omega
  have hemp : (ByteArray.mk #[]).size ≤ maxLen := Nat.zero_le _
  go_enter Try.func6, Try.ntmps6
  go_wp2_with fail
  go_at_call 35
  refine (zz_any rv rg rr ra v g r an nm nd h0 h1 h2 h3 h4 h5' h6 hS).mono ?_
  rintro e w' ⟨b, rfl, rfl, hb⟩
  cases b with
  | false =>
    clear hb
    go_wp2
    go_ret
    exact ⟨rfl, Below.refl _ _⟩
  | true =>
  have hl : ss.length ≤ 1048576 := hb rfl
  clear hb
  go_wp2_with fail
  go_at_call 36
  refine (strsBytes_any hS hl).mono ?_
  rintro e w' ⟨i1, rfl, rfl, a1, b1⟩
  go_wp2_with fail
  go_at_call 22
  refine (textBytes_any rv rg rr ⟨#[]⟩ w h0 h1 h2 hemp).mono ?_
  rintro e w' ⟨i2, rfl, rfl, a2, b2⟩
  go_wp2_with fail
  go_at_call 22
  refine (textBytes_any v g r nm w h3 h4 h5' h6).mono ?_
  rintro e w' ⟨i3, rfl, rfl, a3, b3⟩
  by_cases hsum : i1 + i2 + i3 ≤ 1048576
  case neg =>
    go_wp2
    go_ret
    exact ⟨rfl, Below.refl _ _⟩
  case pos =>
  go_wp2_with fail
  go_at_call 37
  refine (clone_any hS hl).mono ?_
  rintro e w1 ⟨ns1, rfl, hS1, hb1, hsh⟩
  obtain ⟨ao, n, cap, rfl⟩ : ∃ ao n cap, ns1 = .slice ao n cap := by
    rcases hsh with ⟨rfl, _⟩ | ⟨g, rfl⟩
    · exact ⟨_, _, _, rfl⟩
    · exact ⟨_, _, _, rfl⟩
  have hnl : n = ss.length := by
    rcases hS1 with ⟨e, e2⟩ | ⟨a, c, e, _⟩
    · cases e; rw [e2]; rfl
    · cases e; rfl
  clear hsh
  subst hnl
  have hRS := rule_start rv rg rr ra ao ss.length cap w1
  go_wp2_with fail
  generalize ((((((w1.alloc (.cells #[.string rv] 9)).alloc (.cells #[.string rg] 9)).alloc (.cells #[.string rr] 9)).alloc (.cells #[.slice (some ⟨w1.heap.size, 0, none⟩) 1 1, .slice (some ⟨w1.heap.size + 1, 0, none⟩) 1 1, .slice (some ⟨w1.heap.size + 1 + 1, 0, none⟩) 1 1, .slice ao ss.length cap, .slice none 0 0, .bool ra] 25)).alloc (.cells #[.slice (some ⟨w1.heap.size, 0, none⟩) 1 1, .slice (some ⟨w1.heap.size + 1, 0, none⟩) 1 1, .slice (some ⟨w1.heap.size + 1 + 1, 0, none⟩) 1 1, .slice ao ss.length cap, .slice none 0 0, .bool ra] 25)).alloc (.cells #[.slice (some ⟨w1.heap.size + 1 + 1 + 1 + 1, 0, none⟩) 1 1, .slice none 0 0] 55)) = W2 at hRS ⊢
  obtain ⟨hRA, hb2⟩ := hRS
  have hS2 := W.StrsAt.below hS1 hb2
  refine (build_any hRA hS2 h0 h1 h2 hl).mono ?_
  rintro e w3 ⟨C, A, M, rfl, cov, hb3⟩
  have hbel3 : Below w.heap.size w w3 := (hb1.trans (hb2.mono hb1.size)).trans (hb3.mono (Nat.le_trans hb1.size hb2.size))
  have hS3 := W.StrsAt.below hS2 hb3
  clear hRA hS hS1 hS2 hb2 hb3 hb1
  have hbS : Below w3.heap.size w3 (w3.alloc (.cells #[.pointer (some ⟨C, 0, none⟩)] 44)) := (Below.refl _ _).alloc (Nat.le_refl _) _
  have R := zcover_any (sb := w3.heap.size) (cov.below hbS) (putA _ _ _ _ 0 _ rfl rfl) v g r an nm nd h3 h4 h6 h5
  go_wp2_with fail
  obtain ⟨got, hgot⟩ : ∃ b, resB (fun x a => covB rv rg rr ra ss v g x a nm nd) r an = b := ⟨_, rfl⟩
  rw [hgot] at R
  refine R.mono ?_
  rintro e w4 ⟨rfl, hb4⟩
  have hbel4 : Below w.heap.size w w4 := (hbel3.trans (hbS.mono hbel3.size)).trans (hb4.mono (Nat.le_trans hbel3.size hbS.size))
  have hS4 := W.StrsAt.below (W.StrsAt.below hS3 hbS) hb4
  clear R hbS hb4 cov hS3 hbel3
  have HG : Hid (resB (fun x a => covB rv rg rr ra ss v g x a nm nd) r an = got) := hgot
  clear hgot
  go_upto_region 11 with fail
  go_cut [26] from 86 to 92 (fun x wx => x = .bool (rv.toList == v.toList || rv.toList == [42]) ∧ w4 = wx)
  case first =>
    cases hV1 : (rv.toList == v.toList) <;> cases hV2 : (rv.toList == [42])
    all_goals (go_wp2_with fail; go_meet; case rel => exact ⟨by simp [hV1, hV2], rfl⟩)
  case rest =>
  obtain ⟨rfl, rfl⟩ := hcut
  go_upto_region 12 with fail
  go_cut [27] from 93 to 99 (fun x wx => x = .bool (rg.toList == g.toList || rg.toList == [42]) ∧ w4 = wx)
  case first =>
    cases hV1 : (rg.toList == g.toList) <;> cases hV2 : (rg.toList == [42])
    all_goals (go_wp2_with fail; go_meet; case rel => exact ⟨by simp [hV1, hV2], rfl⟩)
  case rest =>
  obtain ⟨rfl, rfl⟩ := hcut
  go_upto_region 13 with fail
  go_cut [28] from 100 to 110 (fun x wx => x = .bool (ss.isEmpty || nd && mem nm ss) ∧ w4 = wx)
  case first =>
    have HE : Hid (ss.isEmpty = ((ss.length : Int) == 0)) := by
      show ss.isEmpty = ((ss.length : Int) == 0)
      cases ss with
      | nil => rfl
      | cons x l => exact (beq_eq_false_iff_ne.2 (by simp; omega)).symm
    cases hz : ((ss.length : Int) == 0) with
    | true =>
      go_wp2_with fail
      go_meet
      case rel => exact ⟨by rw [HE.out, hz]; rfl, rfl⟩
    | false =>
      cases nd with
      | false =>
        go_wp2_with fail
        go_meet
        case rel => exact ⟨by rw [HE.out, hz]; rfl, rfl⟩
      | true =>
        go_wp2_with fail
        go_at_call 34
        refine (hasStr_any hS4 hl nm).mono ?_
        rintro e w5 ⟨rfl, rfl⟩
        go_wp2_with fail
        go_meet
        case rel => exact ⟨by rw [HE.out, hz]; simp, rfl⟩
  case rest =>
  obtain ⟨rfl, rfl⟩ := hcut
  rcases slash_cases r with ⟨h47, hno⟩ | ⟨n, hn47, h47, hbef, hat⟩
  · have HT : Hid (got = ((rv.toList == v.toList || rv.toList == [42]) && (rg.toList == g.toList || rg.toList == [42]) && (ss.isEmpty || nd && mem nm ss) && (rr.toList == [42] || rr.toList == r.toList && (ra == an) || rr.toList == r.toList && ra && !an))) := by
      show got = _
      rw [← HG.out, tab_no _ _ _ _ _ _ _ _ _ _ _ ⟨#[]⟩ h47]
      unfold tabB same star
      simp only [Lib.toList_data, Bool.and_true, Bool.not_true, Bool.and_false, Bool.false_and, Bool.or_false]
    have S39 := slash_any r w4 (-1) h5 h47 (.inl ⟨rfl, hno⟩)
    clear hno h47 HG
    go_wp2_with fail
    go_at_call 39
    refine S39.mono ?_
    rintro e w5 ⟨rfl, rfl⟩
    generalize (ss.isEmpty || nd && mem nm ss) = N at HT ⊢
    generalize (rv.toList == v.toList || rv.toList == [42]) = V at HT ⊢
    generalize (rg.toList == g.toList || rg.toList == [42]) = G at HT ⊢
    go_upto_region 15 with fail
    go_cut [30] from 113 to 161 (fun x wx => x = .bool (rr.toList == [42] || rr.toList == r.toList && (ra == an) || rr.toList == r.toList && ra && !an) ∧ w4 = wx)
    case first =>
      cases hR1 : (rr.toList == [42]) <;> cases hR2 : (rr.toList == r.toList) <;> cases ra <;> cases an
      all_goals (go_wp2_with fail; go_meet; case rel => exact ⟨by simp [hR1, hR2], rfl⟩)
    case rest =>
    obtain ⟨rfl, rfl⟩ := hcut
    generalize (rr.toList == [42] || rr.toList == r.toList && (ra == an) || rr.toList == r.toList && ra && !an) = K at HT ⊢
    cases V <;> cases G <;> cases N <;> cases K
    all_goals go_wp2
    all_goals (go_ret; refine ⟨?_, hbel4⟩; have e1 := HT.out; simp at e1; subst e1; rfl)
  · have HT : Hid (got = ((rv.toList == v.toList || rv.toList == [42]) && (rg.toList == g.toList || rg.toList == [42]) && (ss.isEmpty || nd && mem nm ss) && (rr.toList == [42] || rr.toList == r.toList && (ra == an) || !ra && !an && (rr.toList == ({ data := #[42, 47] } ++ r.extract (n + 1) r.size : ByteArray).toList)))) := by
      show got = _
      rw [← HG.out, tab_at _ _ _ _ _ _ _ _ _ _ _ n h47]
      unfold tabB same star subOf
      simp only [Lib.toList_data, Bool.and_true, Bool.not_false, Bool.and_false, Bool.false_and, Bool.or_false]
    have S39 := slash_any r w4 n h5 h47 (.inr ⟨n, rfl, hn47, hbef, hat⟩)
    have hz2 : (n : Int) + 1 ≤ (r.size : Int) := by omega
    clear hbef hat h47 HG
    go_wp2_with fail
    go_at_call 39
    refine S39.mono ?_
    rintro e w5 ⟨rfl, rfl⟩
    generalize (ss.isEmpty || nd && mem nm ss) = N at HT ⊢
    generalize (rv.toList == v.toList || rv.toList == [42]) = V at HT ⊢
    generalize (rg.toList == g.toList || rg.toList == [42]) = G at HT ⊢
    go_upto_region 15 with fail
    go_cut [30] from 113 to 161 (fun x wx => x = .bool (rr.toList == [42] || rr.toList == r.toList && (ra == an) || !ra && !an && (rr.toList == ({ data := #[42, 47] } ++ r.extract (n + 1) r.size : ByteArray).toList)) ∧ w4 = wx)
    case first =>
      cases hR1 : (rr.toList == [42]) <;> cases hR2 : (rr.toList == r.toList) <;> cases ra <;> cases an
      all_goals (go_wp2_with fail; go_meet; case rel => exact ⟨by simp [hR1, hR2], rfl⟩)
    case rest =>
    obtain ⟨rfl, rfl⟩ := hcut
    generalize (rr.toList == [42] || rr.toList == r.toList && (ra == an) || !ra && !an && (rr.toList == ({ data := #[42, 47] } ++ r.extract (n + 1) r.size : ByteArray).toList)) = K at HT ⊢
    cases V <;> cases G <;> cases N <;> cases K
    all_goals go_wp2
    all_goals (go_ret; refine ⟨?_, hbel4⟩; have e1 := HT.out; simp at e1; subst e1; rfl)
end Go.Proofs.Qxb6606073a.W
