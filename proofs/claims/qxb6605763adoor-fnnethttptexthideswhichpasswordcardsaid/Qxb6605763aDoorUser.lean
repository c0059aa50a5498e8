import Derived.Test.Qxb6605763aDoorEsc
import Derived.Deep.QuietTactic
import Derived.BigQuiet
import Derived.WalkSmall
namespace Go.Proofs.Qxb6605763aDoor.W
open Go.RowKit
open Plain

/-- A Userinfo lies in block a. -/
structure UserAt (w : World) (a : Nat) (us pw : ByteArray) (st : Bool) : Prop where
  c0 : w.cell? ⟨a, 0, none⟩ = some (.string us)
  c1 : w.cell? ⟨a, 1, none⟩ = some (.string pw)
  c2 : w.cell? ⟨a, 2, none⟩ = some (.bool st)
  lt : a < w.heap.size

theorem UserAt.below {w w' : World} {a B : Nat} {us pw : ByteArray} {st : Bool} (h : UserAt w a us pw st) (hb : Below B w w') (ha : a < B) : UserAt w' a us pw st :=
  ⟨(hb.cell (p := ⟨a, 0, none⟩) ha).trans h.c0, (hb.cell (p := ⟨a, 1, none⟩) ha).trans h.c1, (hb.cell (p := ⟨a, 2, none⟩) ha).trans h.c2, Nat.lt_of_lt_of_le h.lt hb.size⟩

theorem userPassword (us pw : ByteArray) (w : World) :
    Calls Tryd.prog 16 #[.string us, .string pw] w fun e w' => e = .returned (.pointer (some ⟨w.heap.size, 0, none⟩)) ∧ w' = w.alloc (.cells #[.string us, .string pw, .bool true] 42) := by
  go_enter Tryd.func16, Tryd.ntmps16
  go_wp2
  go_ret
  exact ⟨rfl, rfl⟩

theorem user_ (us : ByteArray) (w : World) :
    Calls Tryd.prog 19 #[.string us] w fun e w' => e = .returned (.pointer (some ⟨w.heap.size, 0, none⟩)) ∧ w' = w.alloc (.cells #[.string us, .string ⟨#[]⟩, .bool false] 42) := by
  go_enter Tryd.func19, Tryd.ntmps19
  go_wp2
  go_ret
  exact ⟨rfl, rfl⟩

theorem username {us pw : ByteArray} {st : Bool} {a : Nat} {w : World} (h : UserAt w a us pw st) :
    Calls Tryd.prog 22 #[.pointer (some ⟨a, 0, none⟩)] w fun e w' => e = .returned (.string us) ∧ w = w' := by
  have c0 := h.c0
  go_enter Tryd.func22, Tryd.ntmps22
  go_wp2
  go_ret
  exact ⟨rfl, rfl⟩

theorem password {us pw : ByteArray} {st : Bool} {a : Nat} {w : World} (h : UserAt w a us pw st) :
    Calls Tryd.prog 20 #[.pointer (some ⟨a, 0, none⟩)] w fun e w' => e = .returned (.tuple #[.string pw, .bool st]) ∧ ∃ n, w' = w.drewN n := by
  have c1 := h.c1
  have c2 := h.c2
  go_enter Tryd.func20, Tryd.ntmps20
  go_wp2_with fail
  go_quiet (fail)
  go_wp2_with fail
  go_ret2
  exact ⟨rfl, _, rfl⟩

theorem ret_str' {s : ByteArray} {l : List UInt8} (h : s.data.toList = l) : Ending.returned (.string s) = .returned (.string ⟨l.toArray⟩) := ret_str h.symm

theorem esc_bound (m : Nat) (s : ByteArray) (h : s.size ≤ 1048576) : (esc m s.data.toList).length ≤ 3145728 := by
  have h1 := esc_length m s.data.toList
  have h2 := hexn_le m s.data.toList
  have h3 := Lib.size_eq s
  omega

set_option maxHeartbeats 400000 in
theorem info_pass {us pw : ByteArray} {a : Nat} {w : World} (h : UserAt w a us pw true) (ht : Tab w) (hu : us.size ≤ 1048576) (hp : pw.size ≤ 1048576) :
    Calls Tryd.prog 18 #[.pointer (some ⟨a, 0, none⟩)] w fun e w' => e = .returned (.string ⟨(passT us.data.toList pw.data.toList).toArray⟩) ∧ Below w.heap.size w w' := by
  have c0 := h.c0
  have c2 := h.c2
  have h0 : 0 < w.heap.size := by have := h.lt; omega
  go_enter Tryd.func18, Tryd.ntmps18
  go_wp2_with fail
  refine (escape_any us 16 w (by omega) (by omega) ht h0 hu).mono ?_
  rintro e w1 ⟨rfl, hb1⟩
  have h1 := h.below hb1 h.lt
  have ht1 := ht.below hb1 h0
  have d1 := h1.c1
  have d2 := h1.c2
  go_wp2_with fail
  refine (escape_any pw 16 w1 (by omega) (by omega) ht1 (by have := hb1.size; omega) hp).mono ?_
  rintro e w2 ⟨rfl, hb2⟩
  have h2 := esc_bound 16 us hu
  have h3 := esc_bound 16 pw hp
  go_wp2_with fail
  go_ret
  exact ⟨ret_str' (by simp [passT]), hb1.trans (hb2.mono hb1.size)⟩

theorem info_user {us pw : ByteArray} {a : Nat} {w : World} (h : UserAt w a us pw false) (ht : Tab w) (hu : us.size ≤ 1048576) :
    Calls Tryd.prog 18 #[.pointer (some ⟨a, 0, none⟩)] w fun e w' => e = .returned (.string ⟨(userT us.data.toList).toArray⟩) ∧ Below w.heap.size w w' := by
  have c0 := h.c0
  have c2 := h.c2
  have h0 : 0 < w.heap.size := by have := h.lt; omega
  go_enter Tryd.func18, Tryd.ntmps18
  go_wp2_with fail
  refine (escape_any us 16 w (by omega) (by omega) ht h0 hu).mono ?_
  rintro e w1 ⟨rfl, hb1⟩
  have d2 := (h.below hb1 h.lt).c2
  go_wp2_with fail
  go_ret
  exact ⟨rfl, hb1⟩

/-- The user information as String writes it, with a password or without. -/
def infoT (st : Bool) (us pw : List UInt8) : List UInt8 := if st then passT us pw else userT us

theorem info_any {us pw : ByteArray} {st : Bool} {a : Nat} {w : World} (h : UserAt w a us pw st) (ht : Tab w) (hu : us.size ≤ 1048576) (hp : pw.size ≤ 1048576) :
    Calls Tryd.prog 18 #[.pointer (some ⟨a, 0, none⟩)] w fun e w' => e = .returned (.string ⟨(infoT st us.data.toList pw.data.toList).toArray⟩) ∧ Below w.heap.size w w' := by
  cases st with
  | true => exact info_pass h ht hu hp
  | false => exact info_user h ht hu

/-- A URL with user information lies in block b. -/
structure UrlAt (w : World) (b : Nat) (sc op : ByteArray) (a : Nat) (ho pa fr rq : ByteArray) : Prop where
  c0 : w.cell? ⟨b, 0, none⟩ = some (.string sc)
  c1 : w.cell? ⟨b, 1, none⟩ = some (.string op)
  c2 : w.cell? ⟨b, 2, none⟩ = some (.pointer (some ⟨a, 0, none⟩))
  c3 : w.cell? ⟨b, 3, none⟩ = some (.string ho)
  c4 : w.cell? ⟨b, 4, none⟩ = some (.string pa)
  c5 : w.cell? ⟨b, 5, none⟩ = some (.string fr)
  c6 : w.cell? ⟨b, 6, none⟩ = some (.string rq)
  c7 : w.cell? ⟨b, 7, none⟩ = some (.string ⟨#[]⟩)
  c8 : w.cell? ⟨b, 8, none⟩ = some (.string ⟨#[]⟩)
  c9 : w.cell? ⟨b, 9, none⟩ = some (.bool false)
  c10 : w.cell? ⟨b, 10, none⟩ = some (.bool false)
  lt : b < w.heap.size

theorem UrlAt.below {w w' : World} {b B a : Nat} {sc op ho pa fr rq : ByteArray} (h : UrlAt w b sc op a ho pa fr rq) (hb : Below B w w') (ha : b < B) : UrlAt w' b sc op a ho pa fr rq := by
  have k : ∀ i v, w.cell? ⟨b, i, none⟩ = some v → w'.cell? ⟨b, i, none⟩ = some v := fun i v hv => (hb.cell (p := ⟨b, i, none⟩) ha).trans hv
  exact ⟨k _ _ h.c0, k _ _ h.c1, k _ _ h.c2, k _ _ h.c3, k _ _ h.c4, k _ _ h.c5, k _ _ h.c6, k _ _ h.c7, k _ _ h.c8, k _ _ h.c9, k _ _ h.c10, Nat.lt_of_lt_of_le h.lt hb.size⟩

theorem escPath {w : World} {b a : Nat} {sc op ho pa fr rq : ByteArray} (h : UrlAt w b sc op a ho pa fr rq) (ht : Tab w) (hp : pa.size ≤ 1048576) :
    Calls Tryd.prog 27 #[.pointer (some ⟨b, 0, none⟩)] w fun e w' => e = .returned (.string ⟨(pathE pa.data.toList).toArray⟩) ∧ Below w.heap.size w w' := by
  have c7 := h.c7
  have c4 := h.c4
  have h0 : 0 < w.heap.size := by have := h.lt; omega
  cases hs : pa.toList == [42] with
  | true =>
    have hE : pathE pa.data.toList = [42] := by unfold pathE; rw [← Lib.toList_data, hs]; rfl
    rw [hE]
    go_enter Tryd.func27, Tryd.ntmps27
    go_wp2_with fail
    go_ret
    exact ⟨rfl, Below.refl _ _⟩
  | false =>
    have hE : pathE pa.data.toList = esc 1 pa.data.toList := by unfold pathE; rw [← Lib.toList_data, hs]; rfl
    rw [hE]
    go_enter Tryd.func27, Tryd.ntmps27
    go_wp2_with fail
    refine (escape_any pa 1 w (by omega) (by omega) ht h0 hp).mono ?_
    rintro e w1 ⟨rfl, hb1⟩
    go_wp2_with fail
    go_ret
    exact ⟨rfl, hb1⟩

theorem escFrag {w : World} {b a : Nat} {sc op ho pa fr rq : ByteArray} (h : UrlAt w b sc op a ho pa fr rq) (ht : Tab w) (hp : fr.size ≤ 1048576) :
    Calls Tryd.prog 32 #[.pointer (some ⟨b, 0, none⟩)] w fun e w' => e = .returned (.string ⟨(esc 64 fr.data.toList).toArray⟩) ∧ Below w.heap.size w w' := by
  have c8 := h.c8
  have c5 := h.c5
  have h0 : 0 < w.heap.size := by have := h.lt; omega
  go_enter Tryd.func32, Tryd.ntmps32
  go_wp2_with fail
  refine (escape_any fr 64 w (by omega) (by omega) ht h0 hp).mono ?_
  rintro e w1 ⟨rfl, hb1⟩
  go_wp2_with fail
  go_ret
  exact ⟨rfl, hb1⟩

end Go.Proofs.Qxb6605763aDoor.W
