import Derived.Test.Qxb6605763aDoorShelf
import Derived.Test.Qxb6605763aDoorUser
namespace Go.Proofs.Qxb6605763aDoor.W
open Go.RowKit
open Plain

/-- A strings.Builder that the call has made in block W0.heap.size, holding acc; nothing older has turned. -/
structure Bld (W0 : World) (acc : List UInt8) (W : World) : Prop where
  is : Lib.IsBuilder 46 5 W0.heap.size W0.heap.size (Lib.byteCells acc) W
  bel : Below W0.heap.size W0 W

theorem builderAt_below {T e : TypeId} {B b : Nat} {p : Value} {bs : List Value} {W W' : World} (h : Lib.BuilderAt T e B b p bs W) (hb : Below W.heap.size W W') : Lib.BuilderAt T e B b p bs W' := by
  obtain ⟨hB, v, hv, hown, hne⟩ := h
  have hlt : b < W.heap.size := (Array.getElem?_eq_some_iff.1 hv).1
  refine ⟨hB, v, (hb.block b hlt).trans hv, ⟨hown.1, ?_⟩, hne⟩
  rcases hown.2 with hn | ⟨g, cap, cur, hg1, hg2, hg3, rest⟩
  · exact .inl hn
  · exact .inr ⟨g, cap, cur, hg1, hg2, (hb.block g (Array.getElem?_eq_some_iff.1 hg3).1).trans hg3, rest⟩

theorem Bld.other {W0 W W' : World} {acc : List UInt8} (h : Bld W0 acc W) (hb : Below W.heap.size W W') : Bld W0 acc W' :=
  ⟨h.is.elim (fun x => .inl (builderAt_below x hb)) (fun x => .inr (builderAt_below x hb)), h.bel.trans (hb.mono h.bel.size)⟩

theorem bld_grow (n : Nat) (W0 : World) (hn : n ≤ 281474976710656) :
    Calls Tryd.prog 23 #[.pointer (some ⟨W0.heap.size, 0, none⟩), .int .i64 n] (W0.alloc (.cells #[.pointer none, .slice none 0 0] 46)) fun e W' => e = .returned (.tuple #[]) ∧ Bld W0 [] W' := by
  have hblk : (W0.alloc (Obj.cells #[Value.pointer none, Value.slice none 0 0] 46)).heap[W0.heap.size]? = some (.cells #[.pointer none, .slice none 0 0] 46 (0, 0)) := (MapKept.heap_alloc W0 _).1
  refine (Tryd.Builder_Grow_fresh W0.heap.size W0.heap.size n _ (Nat.le_refl _) hblk (by simp) hn).mono fun e W' ⟨he, hB, hb⟩ => ⟨he, ⟨Or.inr hB, ((Below.refl _ _).alloc (Nat.le_refl _) _).trans hb⟩⟩

theorem bld_grow_drew (n : Nat) (W0 : World) (q : Nat) (hn : n ≤ 281474976710656) :
    Calls Tryd.prog 23 #[.pointer (some ⟨W0.heap.size, 0, none⟩), .int .i64 n] ((W0.alloc (.cells #[.pointer none, .slice none 0 0] 46)).drewN q) fun e W' => e = .returned (.tuple #[]) ∧ Bld W0 [] W' := by
  have hblk : ((W0.alloc (Obj.cells #[Value.pointer none, Value.slice none 0 0] 46)).drewN q).heap[W0.heap.size]? = some (.cells #[.pointer none, .slice none 0 0] 46 (0, 0)) := (MapKept.heap_alloc W0 _).1
  refine (Tryd.Builder_Grow_fresh W0.heap.size W0.heap.size n _ (Nat.le_refl _) hblk (by simp) hn).mono fun e W' ⟨he, hB, hb⟩ => ⟨he, ⟨Or.inr hB, (below_drewN ((Below.refl _ _).alloc (Nat.le_refl _) _) q).trans hb⟩⟩

theorem bld_str {W0 W : World} {acc : List UInt8} (h : Bld W0 acc W) (s : ByteArray) (hl : acc.length + s.size ≤ 140737488355328) :
    Calls Tryd.prog 24 #[.pointer (some ⟨W0.heap.size, 0, none⟩), .string s] W fun e W' => e = .returned (.tuple #[.int .i64 s.size, .nilIface]) ∧ Bld W0 (acc ++ s.data.toList) W' := by
  refine (Tryd.Builder_WriteString W0.heap.size W0.heap.size _ s W h.is (by rw [Lib.byteCells_length]; exact hl) h.bel.size).mono fun e W' ⟨he, hB, hb⟩ => ⟨he, ⟨Or.inr ?_, h.bel.trans hb⟩⟩
  rw [Lib.byteCells_append]; exact hB

theorem bld_list {W0 W : World} {acc : List UInt8} (h : Bld W0 acc W) (l : List UInt8) (hl : acc.length + l.length ≤ 140737488355328) :
    Calls Tryd.prog 24 #[.pointer (some ⟨W0.heap.size, 0, none⟩), .string ⟨l.toArray⟩] W fun e W' => e = .returned (.tuple #[.int .i64 (⟨l.toArray⟩ : ByteArray).size, .nilIface]) ∧ Bld W0 (acc ++ l) W' :=
  bld_str h ⟨l.toArray⟩ (by show acc.length + l.toArray.size ≤ _; simpa using hl)

theorem bld_byte {W0 W : World} {acc : List UInt8} (h : Bld W0 acc W) (n : Int) (c : UInt8) (hc : n = c.toNat) (hl : acc.length + 1 ≤ 140737488355328) :
    Calls Tryd.prog 25 #[.pointer (some ⟨W0.heap.size, 0, none⟩), .int .u8 n] W fun e W' => e = .returned .nilIface ∧ Bld W0 (acc ++ [c]) W' := by
  subst hc
  refine (Tryd.Builder_WriteByte W0.heap.size W0.heap.size _ _ W h.is (by rw [Lib.byteCells_length]; exact hl) h.bel.size).mono fun e W' ⟨he, hB, hb⟩ => ⟨he, ⟨Or.inr ?_, h.bel.trans hb⟩⟩
  rw [Lib.byteCells_append]; exact hB

theorem bld_len {W0 W : World} {acc : List UInt8} (h : Bld W0 acc W) :
    Calls Tryd.prog 29 #[.pointer (some ⟨W0.heap.size, 0, none⟩)] W fun e W' => e = .returned (.int .i64 acc.length) ∧ W = W' := by
  refine (Tryd.Builder_Len W0.heap.size W0.heap.size _ W h.is).mono fun e W' ⟨he, hw⟩ => ⟨?_, hw.symm⟩
  rw [he, Lib.byteCells_length]

theorem bld_string {W0 W : World} {acc : List UInt8} (h : Bld W0 acc W) :
    Calls Tryd.prog 33 #[.pointer (some ⟨W0.heap.size, 0, none⟩)] W fun e W' => e = .returned (.string ⟨acc.toArray⟩) ∧ Below W0.heap.size W0 W' :=
  (Tryd.Builder_String_any W0.heap.size W0.heap.size acc W h.is h.bel.size).mono fun _ _ ⟨he, hb⟩ => ⟨he, h.bel.trans hb⟩

end Go.Proofs.Qxb6605763aDoor.W
