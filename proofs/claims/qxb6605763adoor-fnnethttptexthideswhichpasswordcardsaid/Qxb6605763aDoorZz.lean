import Derived.Test.Qxb6605763aDoorNet
namespace Go.Proofs.Qxb6605763aDoor.W
open Go.RowKit
open Plain
set_option linter.unusedVariables false

/-- The world in which a new URL with a new Userinfo lies. -/
theorem made (w : World) (sc op ho pa fr rq us pw : ByteArray) (st : Bool) (ht : Tab w) (h0 : 0 < w.heap.size) :
    let W := (w.alloc (.cells #[.string us, .string pw, .bool st] 42)).alloc (.cells #[.string sc, .string op, .pointer (some ⟨w.heap.size, 0, none⟩), .string ho, .string pa, .string fr, .string rq, .string ⟨#[]⟩, .string ⟨#[]⟩, .bool false, .bool false] 34)
    UrlAt W (w.heap.size + 1) sc op w.heap.size ho pa fr rq ∧ UserAt W w.heap.size us pw st ∧ Tab W ∧ Below w.heap.size w W := by
  intro W
  have K : Below w.heap.size w W := ((Below.refl _ _).alloc (Nat.le_refl _) _).alloc (by simp) _
  refine ⟨?_, ?_, ht.below K h0, K⟩
  · have := urlAt_new (w.alloc (.cells #[.string us, .string pw, .bool st] 42)) sc op ho pa fr rq w.heap.size
    simpa using this
  · exact (userAt_new w us pw st).below ((Below.refl _ _).alloc (Nat.le_refl _) _) (by simp)

theorem zz9 (w : World) (sc op ho pa rq fr us pw : ByteArray) (ht : Tab w) (h0 : 0 < w.heap.size) (B : Small sc op ho pa fr rq us pw) :
    Calls Tryd.prog 9 #[.string sc, .string op, .string ho, .string pa, .string rq, .string fr, .string us, .string pw] w fun e w' => e = .returned (.string ⟨(urlS true sc op ho pa fr rq us pw).toArray⟩) ∧ Below w.heap.size w w' := by
  obtain ⟨hU, hV, hT, hK⟩ := made w sc op ho pa fr rq us pw true ht h0
  go_enter Tryd.func9, Tryd.ntmps9
  go_wp2_with (go_at_call 16; refine (userPassword us pw _).mono ?_; rintro e w' ⟨rfl, rfl⟩)
  refine (string_any hU hV hT B).mono ?_
  rintro e W2 ⟨rfl, K2⟩
  go_wp2_with fail
  go_ret
  exact ⟨rfl, hK.trans (K2.mono hK.size)⟩

theorem zz14 (w : World) (sc op ho pa rq fr us : ByteArray) (ht : Tab w) (h0 : 0 < w.heap.size) (B : Small sc op ho pa fr rq us ⟨#[]⟩) :
    Calls Tryd.prog 14 #[.string sc, .string op, .string ho, .string pa, .string rq, .string fr, .string us] w fun e w' => e = .returned (.string ⟨(urlS false sc op ho pa fr rq us ⟨#[]⟩).toArray⟩) ∧ Below w.heap.size w w' := by
  obtain ⟨hU, hV, hT, hK⟩ := made w sc op ho pa fr rq us ⟨#[]⟩ false ht h0
  go_enter Tryd.func14, Tryd.ntmps14
  go_wp2_with (go_at_call 19; refine (user_ us _).mono ?_; rintro e w' ⟨rfl, rfl⟩)
  refine (string_any hU hV hT B).mono ?_
  rintro e W2 ⟨rfl, K2⟩
  go_wp2_with fail
  go_ret
  exact ⟨rfl, hK.trans (K2.mono hK.size)⟩

theorem zz13 (w : World) (sc op ho pa rq fr us : ByteArray) (ht : Tab w) (h0 : 0 < w.heap.size) (B : Small sc op ho pa fr rq us ⟨#[]⟩) :
    Calls Tryd.prog 13 #[.string sc, .string op, .string ho, .string pa, .string rq, .string fr, .string us] w fun e w' => e = .returned (.string ⟨(urlS false sc op ho pa fr rq us ⟨#[]⟩).toArray⟩) ∧ Below w.heap.size w w' := by
  obtain ⟨hU, hV, hT, hK⟩ := made w sc op ho pa fr rq us ⟨#[]⟩ false ht h0
  go_enter Tryd.func13, Tryd.ntmps13
  go_wp2_with (go_at_call 19; refine (user_ us _).mono ?_; rintro e w' ⟨rfl, rfl⟩)
  refine (net_str hU hV hT B (.inl rfl)).mono ?_
  rintro e W2 ⟨rfl, K2⟩
  go_wp2_with fail
  go_ret
  exact ⟨rfl, hK.trans (K2.mono hK.size)⟩

/-- What netHTTPText gives with a password. -/
def netT (sc op ho pa fr rq us pw : ByteArray) : List UInt8 := if op.toList.isEmpty then maskT sc ho pa fr rq us else urlS true sc op ho pa fr rq us pw

theorem zz8 (w : World) (sc op ho pa rq fr us pw : ByteArray) (ht : Tab w) (h0 : 0 < w.heap.size) (B : Small sc op ho pa fr rq us pw) (hsc : ∀ c ∈ sc.data.toList, c ≠ 64) :
    Calls Tryd.prog 8 #[.string sc, .string op, .string ho, .string pa, .string rq, .string fr, .string us, .string pw] w fun e w' => e = .returned (.string ⟨(netT sc op ho pa fr rq us pw).toArray⟩) ∧ Below w.heap.size w w' := by
  obtain ⟨hU, hV, hT, hK⟩ := made w sc op ho pa fr rq us pw true ht h0
  have HS : Hid (∀ c ∈ sc.data.toList, c ≠ 64) := hsc
  clear hsc
  cases hop : op.toList.isEmpty with
  | true =>
    have hn : netT sc op ho pa fr rq us pw = maskT sc ho pa fr rq us := by unfold netT; rw [hop]; rfl
    rw [hn]
    clear hn
    go_enter Tryd.func8, Tryd.ntmps8
    go_wp2_with (go_at_call 16; refine (userPassword us pw _).mono ?_; rintro e w' ⟨rfl, rfl⟩)
    refine (net_mask hU hV hT B hop HS.out).mono ?_
    rintro e W2 ⟨rfl, K2⟩
    go_wp2_with fail
    go_ret
    exact ⟨rfl, hK.trans (K2.mono hK.size)⟩
  | false =>
    have hn : netT sc op ho pa fr rq us pw = urlS true sc op ho pa fr rq us pw := by unfold netT; rw [hop]; rfl
    rw [hn]
    clear hn
    go_enter Tryd.func8, Tryd.ntmps8
    go_wp2_with (go_at_call 16; refine (userPassword us pw _).mono ?_; rintro e w' ⟨rfl, rfl⟩)
    refine (net_str hU hV hT B (.inr hop)).mono ?_
    rintro e W2 ⟨rfl, K2⟩
    go_wp2_with fail
    go_ret
    exact ⟨rfl, hK.trans (K2.mono hK.size)⟩

theorem zz10 (w : World) (us pw : ByteArray) (ht : Tab w) (h0 : 0 < w.heap.size) (hu : us.size ≤ 1048576) (hp : pw.size ≤ 1048576) :
    Calls Tryd.prog 10 #[.string us, .string pw] w fun e w' => e = .returned (.string ⟨(passT us.data.toList pw.data.toList).toArray⟩) ∧ Below w.heap.size w w' := by
  have K : Below w.heap.size w (w.alloc (.cells #[.string us, .string pw, .bool true] 42)) := (Below.refl _ _).alloc (Nat.le_refl _) _
  go_enter Tryd.func10, Tryd.ntmps10
  go_wp2_with (go_at_call 16; refine (userPassword us pw _).mono ?_; rintro e w' ⟨rfl, rfl⟩)
  refine (info_pass (userAt_new w us pw true) (ht.below K h0) hu hp).mono ?_
  rintro e W2 ⟨rfl, K2⟩
  go_wp2_with fail
  go_ret
  exact ⟨rfl, K.trans (K2.mono K.size)⟩

end Go.Proofs.Qxb6605763aDoor.W
