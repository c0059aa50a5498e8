import Derived.Test.Qxb6605763aDoorLaw
namespace Go.Proofs.Qxb6605763aDoor.W
open Go.RowKit
open Plain
set_option linter.unusedVariables false

theorem eq_self (s : ByteArray) : (s.toList == s.toList) = true := by simp

set_option maxHeartbeats 1600000 in
set_option maxRecDepth 100000 in
theorem walk3 (sc op ho pa rq fr us pw : ByteArray) (w : World) (ht : Tab w) (h0 : 0 < w.heap.size)
    (h1 : sc.size ≤ maxLen) (h2 : op.size ≤ maxLen) (h3 : ho.size ≤ maxLen) (h4 : pa.size ≤ maxLen) (h5 : rq.size ≤ maxLen) (h6 : fr.size ≤ maxLen) (h7 : us.size ≤ maxLen) (h8 : pw.size ≤ maxLen) :
    Calls Tryd.prog 3 #[.string sc, .string op, .string ho, .string pa, .string rq, .string fr, .string us, .string pw] w fun e w' => e = .returned (.bool true) ∧ Below w.heap.size w w' := by
  go_enter Tryd.func3, Tryd.ntmps3
  go_wp2_with fail
  refine (zzBytes5 sc op ho pa rq fr us pw w h1 h2 h3 h4 h5 h6 h7 h8).mono ?_
  rintro e w' ⟨r, rfl, rfl, hr⟩
  clear h1 h2 h3 h4 h5 h6 h7 h8
  cases r with
  | false =>
    go_wp2_with fail
    go_ret
    exact ⟨rfl, Below.refl _ _⟩
  | true =>
  obtain ⟨b0, b1, b4, b5, b7, b6, b2, b3⟩ := hr rfl
  clear hr
  have B : Small sc op ho pa fr rq us pw := ⟨b0, b1, b2, b3, b4, b5, b6, b7⟩
  go_wp2_with fail
  refine (lawOver_any sc op ho pa rq fr us pw ⟨#[]⟩ w b0 b1 b4 b5 b7 b6 b2 b3 (by show 0 ≤ _; omega)).mono ?_
  rintro e w' ⟨r, rfl, rfl⟩
  cases r with
  | true =>
    go_wp2_with fail
    go_ret
    exact ⟨rfl, Below.refl _ _⟩
  | false =>
  go_wp2_with fail
  refine (scheme_any sc w b0).mono ?_
  rintro e w' ⟨r, rfl, rfl, hs⟩
  cases r with
  | false =>
    go_wp2_with fail
    go_ret
    exact ⟨rfl, Below.refl _ _⟩
  | true =>
  have HS : Hid (∀ c ∈ sc.data.toList, c ≠ 64) := hs rfl
  clear hs
  go_wp2_with fail
  refine (zz8 w sc op ho pa rq fr us pw ht h0 B HS.out).mono ?_
  rintro e W1 ⟨rfl, K1⟩
  have ht1 := ht.below K1 h0
  have h1 : 0 < W1.heap.size := Nat.lt_of_lt_of_le h0 K1.size
  obtain ⟨G, hG⟩ : ∃ G : ByteArray, (⟨(netT sc op ho pa fr rq us pw).toArray⟩ : ByteArray) = G := ⟨_, rfl⟩
  have HG : Hid (G.data.toList = netT sc op ho pa fr rq us pw) := by rw [← hG]; rfl
  rw [hG]
  clear hG
  go_wp2_with fail
  refine (zz9 W1 sc op ho pa rq fr us pw ht1 h1 B).mono ?_
  rintro e W2 ⟨rfl, K2⟩
  have K12 := K1.trans (K2.mono K1.size)
  have ht2 := ht.below K12 h0
  have h2 : 0 < W2.heap.size := Nat.lt_of_lt_of_le h0 K12.size
  obtain ⟨S, hS⟩ : ∃ S : ByteArray, (⟨(urlS true sc op ho pa fr rq us pw).toArray⟩ : ByteArray) = S := ⟨_, rfl⟩
  have HD : Hid (S.data.toList = urlS true sc op ho pa fr rq us pw) := by rw [← hS]; rfl
  rw [hS]
  clear hS ht ht1
  cases hop : op.toList.isEmpty with
  | false =>
    have e1 : G = S := ba_ext (by rw [HG.out, HD.out]; unfold netT; rw [hop]; rfl)
    subst e1
    have hee := eq_self G
    go_wp2_with fail
    go_ret
    exact ⟨rfl, K12⟩
  | true =>
  obtain ⟨P, hP⟩ : ∃ P, preT sc.data.toList ++ [47, 47] = P := ⟨_, rfl⟩
  obtain ⟨U, hU⟩ : ∃ U, passT us.data.toList pw.data.toList = U := ⟨_, rfl⟩
  obtain ⟨R, hR⟩ : ∃ R, restT ho.data.toList pa.data.toList rq.data.toList fr.data.toList = R := ⟨_, rfl⟩
  have eS : S.data.toList = P ++ (U ++ 64 :: R) := by
    rw [HD.out, ← hP, ← hU, ← hR]; unfold urlS urlT; rw [← Lib.toList_data op, hop]; simp [infoT]
  have eG : G.data.toList = P ++ us.data.toList ++ [58, 42, 42, 42] ++ 64 :: R := by
    rw [HG.out, ← hP, ← hR]; unfold netT maskT; rw [hop]; rfl
  have lP : P.length ≤ 1048579 := by rw [← hP]; have := preT_len sc b0; simp; omega
  have lR : R.length ≤ 20000000 := by rw [← hR]; exact restT_len b4 b5 b7 b6
  have lU : U.length ≤ 6291457 := by rw [← hU]; exact infoT_len true us pw b2 b3
  have nP : ∀ c ∈ P, c ≠ 64 := by rw [← hP]; exact preT_ne HS.out
  have nU : ∀ c ∈ U, c ≠ 64 := by rw [← hU]; exact passT_ne _ _
  have FA : Hid (S.data.toList = P ++ (U ++ 64 :: R) ∧ G.data.toList = P ++ us.data.toList ++ [58, 42, 42, 42] ++ 64 :: R ∧ (∀ c ∈ P, c ≠ 64) ∧ (∀ c ∈ U, c ≠ 64) ∧ passT us.data.toList pw.data.toList = U) := ⟨eS, eG, nP, nU, hU⟩
  clear eS eG nP nU hP hU hR HS HG HD
  go_wp2_with fail
  refine (zz10 W2 us pw ht2 h2 b2 b3).mono ?_
  rintro e W3 ⟨rfl, K3⟩
  have K13 := K12.trans (K3.mono K12.size)
  rw [FA.out.2.2.2.2]
  obtain ⟨Ub, hUb⟩ : ∃ Ub : ByteArray, (⟨U.toArray⟩ : ByteArray) = Ub := ⟨_, rfl⟩
  have HUb : Hid (Ub.data.toList = U) := by rw [← hUb]; rfl
  have sU : Ub.size ≤ 6291457 := by rw [Lib.size_eq, HUb.out]; exact lU
  rw [hUb]
  clear hUb ht2
  go_wp2_with fail
  obtain ⟨O, hO⟩ : ∃ O : ByteArray, Ub ++ { data := #[64] } = O := ⟨_, rfl⟩
  have HO : Hid (O.data.toList = U ++ [64]) := by rw [← hO]; show _ = _; rw [← HUb.out]; simp
  rw [hO]
  clear hO
  have sS : S.size ≤ 30000000 := by rw [Lib.size_eq, FA.out.1]; simp; omega
  have sO : P.length + O.size ≤ S.size := by rw [Lib.size_eq S, FA.out.1, Lib.size_eq O, HO.out]; simp
  refine (index_any S O P R W3 (by omega) (by rw [FA.out.1, HO.out]; simp) (fun i hi => by
    rw [FA.out.1, HO.out, Lib.size_eq O, HO.out, List.length_append, List.length_singleton, ← List.append_assoc]
    exact no_earlier P U R FA.out.2.2.1 FA.out.2.2.2.1 i hi)).mono ?_
  rintro e w' ⟨rfl, rfl⟩
  obtain ⟨X, hX⟩ : ∃ X : ByteArray, S.extract 0 P.length = X := ⟨_, rfl⟩
  obtain ⟨Y, hY⟩ : ∃ Y : ByteArray, S.extract (P.length + O.size) S.size = Y := ⟨_, rfl⟩
  have HX : Hid (X.data.toList = P) := by rw [← hX]; show _ = _; rw [Lib.extract_data, FA.out.1]; simp
  have HY : Hid (Y.data.toList = R) := by
    rw [← hY]; show _ = _
    rw [Lib.extract_data, Lib.size_eq O, HO.out, FA.out.1, show P ++ (U ++ 64 :: R) = (P ++ (U ++ [64])) ++ R by simp, ← List.length_append, List.drop_left, List.take_of_length_le (by rw [Lib.size_eq S, FA.out.1]; simp; omega)]
  have sX : X.size ≤ 1048579 := by rw [Lib.size_eq, HX.out]; exact lP
  have sY : Y.size ≤ 20000000 := by rw [Lib.size_eq, HY.out]; exact lR
  generalize P.length = p at *
  go_wp2_with fail
  go_quiet (fail)
  go_wp2_with fail
  go_ret
  exact ⟨ret_bool (by rw [beq_iff_eq, Lib.toList_data, Lib.toList_data, FA.out.2.1]; simp [HX.out, HY.out]), below_drewN K13 _⟩
end Go.Proofs.Qxb6605763aDoor.W
