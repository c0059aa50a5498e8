import Derived.Test.Qxb6605763aDoorBld
import Derived.Deep.DeepCutAuto
import Derived.Deep.DeepMust
namespace Go.Proofs.Qxb6605763aDoor.W
open Go.RowKit
open Plain

/-- The walk's facts on the URL's cells, in every later world. -/
theorem UrlAt.later {w : World} {b a : Nat} {sc op ho pa fr rq : ByteArray} (h : UrlAt w b sc op a ho pa fr rq) : ∀ W, Below w.heap.size w W → UrlAt W b sc op a ho pa fr rq := fun _ hb => h.below hb h.lt

theorem ret_list {l l' : List UInt8} (h : l = l') : Ending.returned (.string ⟨l.toArray⟩) = .returned (.string ⟨l'.toArray⟩) := by rw [h]

theorem ba_empty {b : ByteArray} (h : b.size = 0) : b.toList.isEmpty = true := by
  rw [Lib.toList_data, List.isEmpty_iff, ← List.length_eq_zero_iff, ← Lib.size_eq]; exact h
theorem ba_nonempty {b : ByteArray} (h : 0 < b.size) : b.toList.isEmpty = false := by
  rw [Lib.toList_data]
  cases hl : b.data.toList with
  | nil => have := Lib.size_eq b; rw [hl, List.length_nil] at this; omega
  | cons _ _ => rfl
theorem head_at {b : ByteArray} (h : 0 < b.size) : b.data.toList.head? = some b[0] := by
  rw [List.head?_eq_getElem?]; exact Lib.data_getElem? b 0 h
theorem slash_empty (ho : ByteArray) {pb : ByteArray} (h : pb.toList.isEmpty = true) : slashB ho.data.toList pb.data.toList = false := by
  unfold slashB; rw [← Lib.toList_data pb, h]; rfl
theorem slash_47 (ho : ByteArray) {pb : ByteArray} (h : 0 < pb.size) (h47 : ((pb[0].toNat : Int) != 47) = false) : slashB ho.data.toList pb.data.toList = false := by
  have e : pb[0] = 47 := UInt8.toNat_inj.1 (by have h1 : (47 : UInt8).toNat = 47 := rfl; have h2 := bne_eq_false_iff_eq.1 h47; omega)
  unfold slashB; rw [head_at h, e]; simp
theorem slash_other (ho : ByteArray) {pb : ByteArray} (h : 0 < pb.size) (h47 : ((pb[0].toNat : Int) != 47) = true) : slashB ho.data.toList pb.data.toList = !ho.toList.isEmpty := by
  have e : ¬ pb[0] = 47 := fun e => by rw [e] at h47; exact absurd h47 (by decide)
  unfold slashB; rw [head_at h, ← Lib.toList_data pb, ba_nonempty h, ← Lib.toList_data ho]; simp [e]

theorem preT_len (sc : ByteArray) (h : sc.size ≤ 1048576) : (preT sc.data.toList).length ≤ 1048577 := by
  have := Lib.size_eq sc
  unfold preT
  split <;> simp <;> omega
theorem infoT_len (st : Bool) (us pw : ByteArray) (hu : us.size ≤ 1048576) (hp : pw.size ≤ 1048576) : (infoT st us.data.toList pw.data.toList).length ≤ 6291457 := by
  have h1 := esc_bound 16 us hu
  have h2 := esc_bound 16 pw hp
  unfold infoT passT userT
  split <;> simp <;> omega
theorem hostT_len (ho : ByteArray) (h : ho.size ≤ 1048576) : (hostT ho.data.toList).length ≤ 3145728 := by
  have := esc_bound 4 ho h
  unfold hostT
  split
  · simp
  · omega
theorem pathE_len (pa : ByteArray) (h : pa.size ≤ 1048576) : (pathE pa.data.toList).length ≤ 3145728 := by
  have := esc_bound 1 pa h
  unfold pathE
  split
  · simp
  · omega

end Go.Proofs.Qxb6605763aDoor.W
