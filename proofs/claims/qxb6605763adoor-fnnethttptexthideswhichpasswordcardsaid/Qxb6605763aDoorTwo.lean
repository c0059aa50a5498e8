import Derived.Test.Qxb6605763aDoorLaw
namespace Go.Proofs.Qxb6605763aDoor.W
open Go.RowKit
open Plain
set_option linter.unusedVariables false

theorem eqv (s : ByteArray) : (s.toList == s.toList) = true := by simp
theorem neqv (s : ByteArray) : (s.toList != s.toList) = false := by simp

set_option maxHeartbeats 1600000 in
set_option maxRecDepth 100000 in
theorem walk4 (sc op ho pa rq fr us pw p2 : ByteArray) (w : World) (ht : Tab w) (h0 : 0 < w.heap.size)
    (h1 : sc.size ≤ maxLen) (h2 : op.size ≤ maxLen) (h3 : ho.size ≤ maxLen) (h4 : pa.size ≤ maxLen) (h5 : rq.size ≤ maxLen) (h6 : fr.size ≤ maxLen) (h7 : us.size ≤ maxLen) (h8 : pw.size ≤ maxLen) (h9 : p2.size ≤ maxLen) :
    Calls Tryd.prog 4 #[.string sc, .string op, .string ho, .string pa, .string rq, .string fr, .string us, .string pw, .string p2] w fun e w' => e = .returned (.bool true) ∧ Below w.heap.size w w' := by
  go_enter Tryd.func4, Tryd.ntmps4
  go_wp2_with fail
  refine (zzBytes12 sc op ho pa rq fr us pw p2 w h1 h2 h3 h4 h5 h6 h7 h8 h9).mono ?_
  rintro e w' ⟨r, rfl, rfl, hr⟩
  clear h1 h2 h3 h4 h5 h6 h7 h8 h9
  cases r with
  | false =>
    go_wp2_with fail
    go_ret
    exact ⟨rfl, Below.refl _ _⟩
  | true =>
  obtain ⟨b0, b1, b4, b5, b7, b6, b2, b3, b8⟩ := hr rfl
  clear hr
  have B : Small sc op ho pa fr rq us pw := ⟨b0, b1, b2, b3, b4, b5, b6, b7⟩
  have B2 : Small sc op ho pa fr rq us p2 := ⟨b0, b1, b2, b8, b4, b5, b6, b7⟩
  have B0 : Small sc op ho pa fr rq us ⟨#[]⟩ := ⟨b0, b1, b2, by show 0 ≤ _; omega, b4, b5, b6, b7⟩
  go_wp2_with fail
  refine (lawOver_any sc op ho pa rq fr us pw p2 w b0 b1 b4 b5 b7 b6 b2 b3 b8).mono ?_
  rintro e w' ⟨r, rfl, rfl⟩
  cases r with
  | true =>
    go_wp2_with fail
    go_ret
    exact ⟨rfl, Below.refl _ _⟩
  | false =>
  go_wp2_with fail
  refine (scheme_any sc w b0).mono ?_
  rintro e w' ⟨r, rfl, rfl, hs⟩
  cases r with
  | false =>
    go_wp2_with fail
    go_ret
    exact ⟨rfl, Below.refl _ _⟩
  | true =>
  have HS : Hid (∀ c ∈ sc.data.toList, c ≠ 64) := hs rfl
  clear hs
  go_wp2_with fail
  refine (zz8 w sc op ho pa rq fr us pw ht h0 B HS.out).mono ?_
  rintro e W1 ⟨rfl, K1⟩
  have ht1 := ht.below K1 h0
  have h1 : 0 < W1.heap.size := Nat.lt_of_lt_of_le h0 K1.size
  obtain ⟨G, hG⟩ : ∃ G : ByteArray, (⟨(netT sc op ho pa fr rq us pw).toArray⟩ : ByteArray) = G := ⟨_, rfl⟩
  have HG : Hid (G.data.toList = netT sc op ho pa fr rq us pw) := by rw [← hG]; rfl
  rw [hG]
  clear hG
  go_wp2_with fail
  refine (zz8 W1 sc op ho pa rq fr us p2 ht1 h1 B2 HS.out).mono ?_
  rintro e W2 ⟨rfl, K2⟩
  have K12 := K1.trans (K2.mono K1.size)
  have ht2 := ht.below K12 h0
  have h2 : 0 < W2.heap.size := Nat.lt_of_lt_of_le h0 K12.size
  have e2 : (⟨(netT sc op ho pa fr rq us p2).toArray⟩ : ByteArray) = G := ba_ext (by
    rw [HG.out]
    show netT sc op ho pa fr rq us p2 = _
    unfold netT
    cases hop : op.toList.isEmpty with
    | true => rfl
    | false => simp only [urlS, urlT, ← Lib.toList_data op, hop]; rfl)
  rw [e2]
  clear e2 ht1
  go_wp2_with fail
  refine (zz13 W2 sc op ho pa rq fr us ht2 h2 B0).mono ?_
  rintro e W3 ⟨rfl, K3⟩
  have K13 := K12.trans (K3.mono K12.size)
  have ht3 := ht.below K13 h0
  have h3 : 0 < W3.heap.size := Nat.lt_of_lt_of_le h0 K13.size
  obtain ⟨T, hT⟩ : ∃ T : ByteArray, (⟨(urlS false sc op ho pa fr rq us ⟨#[]⟩).toArray⟩ : ByteArray) = T := ⟨_, rfl⟩
  have HT : Hid (T.data.toList = urlS false sc op ho pa fr rq us ⟨#[]⟩) := by rw [← hT]; rfl
  have HT2 : Hid ((⟨(urlS false sc op ho pa fr rq us ⟨#[]⟩).toArray⟩ : ByteArray) = T) := hT
  rw [hT]
  clear hT ht2
  go_wp2_with fail
  refine (zz14 W3 sc op ho pa rq fr us ht3 h3 B0).mono ?_
  rintro e W4 ⟨rfl, K4⟩
  rw [HT2.out]
  have K14 := K13.trans (K4.mono K13.size)
  have ht4 := ht.below K14 h0
  have h4 : 0 < W4.heap.size := Nat.lt_of_lt_of_le h0 K14.size
  have n1 := neqv T
  have n2 := neqv G
  clear ht3 ht
  cases hop : op.toList.isEmpty with
  | false =>
    go_wp2_with fail
    refine (zz9 W4 sc op ho pa rq fr us pw ht4 h4 B).mono ?_
    rintro e W5 ⟨rfl, K5⟩
    have e5 : (⟨(urlS true sc op ho pa fr rq us pw).toArray⟩ : ByteArray) = G := ba_ext (by
      rw [HG.out]; unfold netT; rw [hop]; rfl)
    rw [e5]
    have n3 := eqv G
    go_wp2_with fail
    go_ret
    exact ⟨rfl, K14.trans (K5.mono K14.size)⟩
  | true =>
    have hne : (G.toList == T.toList) = false := by
      rw [beq_eq_false_iff_ne, Lib.toList_data, Lib.toList_data, HG.out, HT.out]
      have e6 : netT sc op ho pa fr rq us pw = maskT sc ho pa fr rq us := by unfold netT; rw [hop]; rfl
      have e7 : urlS false sc op ho pa fr rq us ⟨#[]⟩ = (preT sc.data.toList ++ [47, 47]) ++ userT us.data.toList ++ 64 :: restT ho.data.toList pa.data.toList rq.data.toList fr.data.toList := by
        unfold urlS urlT; rw [← Lib.toList_data op, hop]; rfl
      rw [e6, e7]
      exact masked_ne _ _ _
    go_wp2_with fail
    go_ret
    exact ⟨rfl, K14⟩
end Go.Proofs.Qxb6605763aDoor.W
