import Derived.Test.Qxb6605763aDoorStrB
import Derived.Test.Qxb6605763aDoorStrC
namespace Go.Proofs.Qxb6605763aDoor.W
open Go.RowKit
open Plain
set_option linter.unusedVariables false

/-- The sizes of all that a URL is made of. -/
structure Small (sc op ho pa fr rq us pw : ByteArray) : Prop where
  b0 : sc.size ≤ 1048576
  b1 : op.size ≤ 1048576
  b2 : us.size ≤ 1048576
  b3 : pw.size ≤ 1048576
  b4 : ho.size ≤ 1048576
  b5 : pa.size ≤ 1048576
  b6 : fr.size ≤ 1048576
  b7 : rq.size ≤ 1048576

/-- The text of a URL, over its strings. -/
def urlS (st : Bool) (sc op ho pa fr rq us pw : ByteArray) : List UInt8 :=
  urlT sc.data.toList op.data.toList (infoT st us.data.toList pw.data.toList) ho.data.toList pa.data.toList rq.data.toList fr.data.toList

theorem string_any {w : World} {b a : Nat} {sc op ho pa fr rq us pw : ByteArray} {st : Bool} (h : UrlAt w b sc op a ho pa fr rq) (hu : UserAt w a us pw st) (ht : Tab w) (B : Small sc op ho pa fr rq us pw) :
    Calls Tryd.prog 17 #[.pointer (some ⟨b, 0, none⟩)] w fun e w' => e = .returned (.string ⟨(urlS st sc op ho pa fr rq us pw).toArray⟩) ∧ Below w.heap.size w w' := by
  cases hop : op.toList.isEmpty with
  | true => exact string_plain h hu ht B.b0 B.b1 B.b2 B.b3 B.b4 B.b5 B.b6 B.b7 hop
  | false => exact string_opq h hu ht B.b0 B.b1 B.b2 B.b3 B.b4 B.b5 B.b6 B.b7 hop

theorem userAt_new (w : World) (us pw : ByteArray) (st : Bool) : UserAt (w.alloc (.cells #[.string us, .string pw, .bool st] 42)) w.heap.size us pw st :=
  ⟨by simp, by simp, by simp, by simp⟩

theorem urlAt_new (w : World) (sc op ho pa fr rq : ByteArray) (a : Nat) :
    UrlAt (w.alloc (.cells #[.string sc, .string op, .pointer (some ⟨a, 0, none⟩), .string ho, .string pa, .string fr, .string rq, .string ⟨#[]⟩, .string ⟨#[]⟩, .bool false, .bool false] 34)) w.heap.size sc op a ho pa fr rq := by
  constructor <;> simp

theorem urlAt_two (w : World) (sc op ho pa fr rq : ByteArray) (a : Nat) (o : Obj) :
    UrlAt ((w.alloc (.cells #[.string sc, .string op, .pointer (some ⟨a, 0, none⟩), .string ho, .string pa, .string fr, .string rq, .string ⟨#[]⟩, .string ⟨#[]⟩, .bool false, .bool false] 34)).alloc o) w.heap.size sc op a ho pa fr rq :=
  (urlAt_new w sc op ho pa fr rq a).below ((Below.refl _ _).alloc (Nat.le_refl _) o) (by simp)

theorem restT_len {ho pa rq fr : ByteArray} (h1 : ho.size ≤ 1048576) (h2 : pa.size ≤ 1048576) (h3 : rq.size ≤ 1048576) (h4 : fr.size ≤ 1048576) :
    (restT ho.data.toList pa.data.toList rq.data.toList fr.data.toList).length ≤ 20000000 := by
  have a1 := hostT_len ho h1
  have a2 := pathE_len pa h2
  have a3 := Lib.size_eq rq
  have a4 := esc_bound 64 fr h4
  have a5 : (pathT ho.data.toList pa.data.toList).length ≤ 3145729 := by unfold pathT; split <;> simp <;> omega
  have a6 : (queryT rq.data.toList).length ≤ 1048577 := by unfold queryT; split <;> simp <;> omega
  have a7 : (fragT fr.data.toList).length ≤ 3145729 := by unfold fragT; split <;> simp <;> omega
  unfold restT
  simp
  omega

theorem ba_ext {a b : ByteArray} (h : a.data.toList = b.data.toList) : a = b := by
  apply ByteArray.ext
  exact Array.toList_inj.1 h

theorem ret3 {a b c a' b' c' : ByteArray} (h1 : a = a') (h2 : b = b') (h3 : c = c') : Ending.returned (.tuple #[.string a, .string b, .string c]) = .returned (.tuple #[.string a', .string b', .string c']) := by rw [h1, h2, h3]

theorem index64 (S : ByteArray) (n : Nat) (w : World) (h : Lib.indexByte S.data.toList 64 = n) :
    Calls Tryd.prog 34 #[.string S, .int .u8 64] w fun e w' => e = .returned (.int .i64 n) ∧ w = w' := by
  refine (Tryd.strings_IndexByte S 64 w).mono fun e w' ⟨he, hw⟩ => ⟨?_, hw.symm⟩
  rw [he, ← h]; rfl

theorem split_any {w : World} {b a : Nat} {sc op ho pa fr rq us pw : ByteArray} {st : Bool} (h : UrlAt w b sc op a ho pa fr rq) (hu : UserAt w a us pw st) (ht : Tab w) (B : Small sc op ho pa fr rq us pw)
    (hop : op.toList.isEmpty = true) (hsc : ∀ c ∈ sc.data.toList, c ≠ 64) :
    Calls Tryd.prog 21 #[.pointer (some ⟨b, 0, none⟩)] w fun e w' => e = .returned (.tuple #[.string ⟨(preT sc.data.toList ++ [47, 47]).toArray⟩, .string ⟨(userT us.data.toList).toArray⟩, .string ⟨(64 :: restT ho.data.toList pa.data.toList rq.data.toList fr.data.toList).toArray⟩]) ∧ Below w.heap.size w w' := by
  have c0 := h.c0
  have c1 := h.c1
  have c2 := h.c2
  have c3 := h.c3
  have c4 := h.c4
  have c5 := h.c5
  have c6 := h.c6
  have c7 := h.c7
  have c8 := h.c8
  have c9 := h.c9
  have c10 := h.c10
  have hlt := h.lt
  go_enter Tryd.func21, Tryd.ntmps21
  go_wp2_with (first | (go_at_call 22; refine (username (hu.below ((Below.refl _ _).alloc (Nat.le_refl _) _) hu.lt)).mono ?_; rintro e w' ⟨rfl, rfl⟩) | (go_at_call 19; refine (user_ us _).mono ?_; rintro e w' ⟨rfl, rfl⟩))
  have U1 := urlAt_two w sc op ho pa fr rq (w.heap.size + 1) (.cells #[.string us, .string ⟨#[]⟩, .bool false] 42)
  have V1 := userAt_new (w.alloc (.cells #[.string sc, .string op, .pointer (some ⟨w.heap.size + 1, 0, none⟩), .string ho, .string pa, .string fr, .string rq, .string ⟨#[]⟩, .string ⟨#[]⟩, .bool false, .bool false] 34)) us ⟨#[]⟩ false
  have K1 : Below w.heap.size w ((w.alloc (.cells #[.string sc, .string op, .pointer (some ⟨w.heap.size + 1, 0, none⟩), .string ho, .string pa, .string fr, .string rq, .string ⟨#[]⟩, .string ⟨#[]⟩, .bool false, .bool false] 34)).alloc (.cells #[.string us, .string ⟨#[]⟩, .bool false] 42)) := ((Below.refl _ _).alloc (Nat.le_refl _) _).alloc (by simp) _
  have z1 : ((w.alloc (.cells #[.string sc, .string op, .pointer (some ⟨w.heap.size + 1, 0, none⟩), .string ho, .string pa, .string fr, .string rq, .string ⟨#[]⟩, .string ⟨#[]⟩, .bool false, .bool false] 34)).alloc (.cells #[.string us, .string ⟨#[]⟩, .bool false] 42)).heap.size = w.heap.size + 2 := by simp
  have y1 : (w.alloc (.cells #[.string sc, .string op, .pointer (some ⟨w.heap.size + 1, 0, none⟩), .string ho, .string pa, .string fr, .string rq, .string ⟨#[]⟩, .string ⟨#[]⟩, .bool false, .bool false] 34)).heap.size = w.heap.size + 1 := by simp
  rw [y1] at V1
  generalize (w.alloc (.cells #[.string sc, .string op, .pointer (some ⟨w.heap.size + 1, 0, none⟩), .string ho, .string pa, .string fr, .string rq, .string ⟨#[]⟩, .string ⟨#[]⟩, .bool false, .bool false] 34)).alloc (.cells #[.string us, .string ⟨#[]⟩, .bool false] 42) = W1 at *
  have h0 : 0 < w.heap.size := by omega
  have B' : Small sc op ho pa fr rq us ⟨#[]⟩ := ⟨B.b0, B.b1, B.b2, by show 0 ≤ _; omega, B.b4, B.b5, B.b6, B.b7⟩
  refine (string_any U1 V1 (ht.below K1 h0) B').mono ?_
  rintro e W2 ⟨rfl, K2⟩
  have hurl : urlS false sc op ho pa fr rq us ⟨#[]⟩ = (preT sc.data.toList ++ [47, 47] ++ userT us.data.toList) ++ 64 :: restT ho.data.toList pa.data.toList rq.data.toList fr.data.toList := by
    unfold urlS urlT; rw [← Lib.toList_data op, hop]; rfl
  rw [hurl]
  clear hurl
  have hat := index_at (preT sc.data.toList ++ [47, 47] ++ userT us.data.toList) (restT ho.data.toList pa.data.toList rq.data.toList fr.data.toList) (fun c hc => by
    rw [List.mem_append] at hc
    rcases hc with hc | hc
    · exact preT_ne hsc c hc
    · exact userT_ne _ c hc)
  have hUl : (userT us.data.toList).length ≤ 3145728 := esc_bound 16 us B.b2
  have hPl : (preT sc.data.toList ++ [47, 47]).length ≤ 1048579 := by have := preT_len sc B.b0; simp; omega
  have hRl : (restT ho.data.toList pa.data.toList rq.data.toList fr.data.toList).length ≤ 20000000 := restT_len B.b4 B.b5 B.b7 B.b6
  have K12 : Below w.heap.size w W2 := K1.trans (K2.mono K1.size)
  have V2 := V1.below K2 (by omega)
  have d2 : W2.cell? ⟨w.heap.size, 2, none⟩ = some (.pointer (some ⟨w.heap.size + 1, 0, none⟩)) := (U1.below K2 (by omega)).c2
  have ht2 := ht.below K12 h0
  obtain ⟨U, hU⟩ : ∃ U, userT us.data.toList = U := ⟨_, rfl⟩
  obtain ⟨P, hP⟩ : ∃ P, preT sc.data.toList ++ [47, 47] = P := ⟨_, rfl⟩
  obtain ⟨R, hR⟩ : ∃ R, restT ho.data.toList pa.data.toList rq.data.toList fr.data.toList = R := ⟨_, rfl⟩
  rw [hU, hP, hR] at hat ⊢
  rw [hU] at hUl
  rw [hP] at hPl
  rw [hR] at hRl
  have HU : Hid (userT us.data.toList = U) := hU
  have HPr : Hid (preT sc.data.toList ++ [47, 47] = P) := hP
  have HRs : Hid (restT ho.data.toList pa.data.toList rq.data.toList fr.data.toList = R) := hR
  clear hU hP hR c0 c1 c2 c3 c4 c5 c6 c7 c8 c9 c10
  obtain ⟨S, hS⟩ : ∃ S : ByteArray, (⟨(P ++ U ++ 64 :: R).toArray⟩ : ByteArray) = S := ⟨_, rfl⟩
  have HD : Hid (S.data.toList = P ++ U ++ 64 :: R) := by rw [← hS]; rfl
  have hSs : P.length + U.length < S.size := by rw [Lib.size_eq, HD.out]; simp
  rw [hS]
  rw [← HD.out, List.length_append] at hat
  clear hS
  have HA : Hid (Lib.indexByte S.data.toList 64 = ((P.length + U.length : Nat) : Int)) := hat
  clear hat
  obtain ⟨p, hp⟩ : ∃ p, P.length = p := ⟨_, rfl⟩
  obtain ⟨u, hu'⟩ : ∃ u, U.length = u := ⟨_, rfl⟩
  have Hp : Hid (P.length = p) := hp
  have Hu : Hid (U.length = u) := hu'
  rw [hp, hu'] at hSs
  rw [hp] at hPl
  rw [hu'] at hUl
  have hSb : S.size ≤ 30000000 := by rw [Lib.size_eq, HD.out]; simp; omega
  clear hp hu'
  go_wp2_with fail
  refine (index64 S (p + u) _ (by rw [HA.out, Hp.out, Hu.out])).mono ?_
  rintro e W3 ⟨rfl, rfl⟩
  go_wp2_with fail
  refine (info_any V2 ht2 B.b2 B'.b3).mono ?_
  rintro e W4 ⟨rfl, K4⟩
  rw [show infoT false us.data.toList (⟨#[]⟩ : ByteArray).data.toList = U from HU.out]
  obtain ⟨Us, hUs⟩ : ∃ Us : ByteArray, (⟨U.toArray⟩ : ByteArray) = Us := ⟨_, rfl⟩
  have HUs : Hid ((⟨U.toArray⟩ : ByteArray) = Us) := hUs
  have hUz : Us.size = u := by rw [← hUs, ← Hu.out]; rfl
  rw [hUs]
  clear hUs
  go_wp2_with fail
  have e1 : Hid (S.extract 0 p = ⟨P.toArray⟩) := ba_ext (by rw [Lib.extract_data, HD.out, ← Hp.out]; simp)
  have e2 : Hid (S.extract (p + u) S.size = ⟨(64 :: R).toArray⟩) := ba_ext (by rw [Lib.extract_data, HD.out, ← Hp.out, ← Hu.out, ← List.length_append, List.drop_left, List.take_of_length_le (by rw [Lib.size_eq, HD.out]; simp; omega)])
  go_quiet (fail)
  go_wp2_with fail
  go_ret3
  exact ⟨ret3 (by rw [HPr.out]; exact e1.out) (by rw [HU.out]; exact HUs.out.symm) (by rw [HRs.out]; exact e2.out), below_drewN (K12.trans (K4.mono K12.size)) _⟩

/-- netHTTPText of a URL with a password whose Opaque is empty. -/
def maskT (sc ho pa fr rq us : ByteArray) : List UInt8 :=
  preT sc.data.toList ++ [47, 47] ++ us.data.toList ++ [58, 42, 42, 42] ++ 64 :: restT ho.data.toList pa.data.toList rq.data.toList fr.data.toList

theorem net_str {w : World} {b a : Nat} {sc op ho pa fr rq us pw : ByteArray} {st : Bool} (h : UrlAt w b sc op a ho pa fr rq) (hu : UserAt w a us pw st) (ht : Tab w) (B : Small sc op ho pa fr rq us pw)
    (hb : st = false ∨ op.toList.isEmpty = false) :
    Calls Tryd.prog 15 #[.pointer (some ⟨b, 0, none⟩)] w fun e w' => e = .returned (.string ⟨(urlS st sc op ho pa fr rq us pw).toArray⟩) ∧ Below w.heap.size w w' := by
  have c1 := h.c1
  have c2 := h.c2
  have h0 : 0 < w.heap.size := by have := h.lt; omega
  have K1 : ∀ n, Below w.heap.size w (w.drewN n) := fun n => below_drewN (Below.refl _ _) n
  cases st with
  | false =>
    go_enter Tryd.func15, Tryd.ntmps15
    go_wp2_with fail
    refine (password hu).mono ?_
    rintro e w' ⟨rfl, n, rfl⟩
    go_wp2_with fail
    refine (string_any (h.below (K1 n) h.lt) (hu.below (K1 n) hu.lt) (ht.below (K1 n) h0) B).mono ?_
    rintro e W2 ⟨rfl, K2⟩
    go_wp2_with fail
    go_ret
    exact ⟨rfl, (K1 n).trans K2⟩
  | true =>
    have hop : op.toList.isEmpty = false := hb.resolve_left (by decide)
    clear hb
    go_enter Tryd.func15, Tryd.ntmps15
    go_wp2_with fail
    refine (password hu).mono ?_
    rintro e w' ⟨rfl, n, rfl⟩
    go_wp2_with fail
    refine (string_any (h.below (K1 n) h.lt) (hu.below (K1 n) hu.lt) (ht.below (K1 n) h0) B).mono ?_
    rintro e W2 ⟨rfl, K2⟩
    go_wp2_with fail
    go_ret
    exact ⟨rfl, (K1 n).trans K2⟩

theorem net_mask {w : World} {b a : Nat} {sc op ho pa fr rq us pw : ByteArray} (h : UrlAt w b sc op a ho pa fr rq) (hu : UserAt w a us pw true) (ht : Tab w) (B : Small sc op ho pa fr rq us pw)
    (hop : op.toList.isEmpty = true) (hsc : ∀ c ∈ sc.data.toList, c ≠ 64) :
    Calls Tryd.prog 15 #[.pointer (some ⟨b, 0, none⟩)] w fun e w' => e = .returned (.string ⟨(maskT sc ho pa fr rq us).toArray⟩) ∧ Below w.heap.size w w' := by
  have c1 := h.c1
  have c2 := h.c2
  have h0 : 0 < w.heap.size := by have := h.lt; omega
  have K1 : ∀ n, Below w.heap.size w (w.drewN n) := fun n => below_drewN (Below.refl _ _) n
  have hPl : (preT sc.data.toList ++ [47, 47]).length ≤ 1048579 := by have := preT_len sc B.b0; simp; omega
  have hRl : (restT ho.data.toList pa.data.toList rq.data.toList fr.data.toList).length ≤ 20000000 := restT_len B.b4 B.b5 B.b7 B.b6
  have hus := B.b2
  have HS : Hid (∀ c ∈ sc.data.toList, c ≠ 64) := hsc
  clear hsc
  go_enter Tryd.func15, Tryd.ntmps15
  go_wp2_with fail
  refine (password hu).mono ?_
  rintro e w' ⟨rfl, n, rfl⟩
  go_wp2_with fail
  refine (split_any (h.below (K1 n) h.lt) (hu.below (K1 n) hu.lt) (ht.below (K1 n) h0) B hop HS.out).mono ?_
  rintro e W2 ⟨rfl, K2⟩
  have K12 : Below w.heap.size w W2 := (K1 n).trans K2
  have d2 := (h.below K12 h.lt).c2
  have V2 := hu.below K12 hu.lt
  obtain ⟨P, hP⟩ : ∃ P : ByteArray, (⟨(preT sc.data.toList ++ [47, 47]).toArray⟩ : ByteArray) = P := ⟨_, rfl⟩
  obtain ⟨R, hR⟩ : ∃ R : ByteArray, (⟨(64 :: restT ho.data.toList pa.data.toList rq.data.toList fr.data.toList).toArray⟩ : ByteArray) = R := ⟨_, rfl⟩
  have HP : Hid (P.data.toList = preT sc.data.toList ++ [47, 47]) := by rw [← hP]; rfl
  have HR : Hid (R.data.toList = 64 :: restT ho.data.toList pa.data.toList rq.data.toList fr.data.toList) := by rw [← hR]; rfl
  have hPs : P.size ≤ 1048579 := by rw [Lib.size_eq, HP.out]; exact hPl
  have hRs : R.size ≤ 20000001 := by rw [Lib.size_eq, HR.out]; simpa using hRl
  rw [hP, hR]
  clear hP hR hPl hRl
  go_wp2_with fail
  refine (username V2).mono ?_
  rintro e W3 ⟨rfl, rfl⟩
  go_wp2_with fail
  go_ret
  exact ⟨ret_str' (by simp [HP.out, HR.out, maskT]), K12⟩

end Go.Proofs.Qxb6605763aDoor.W
