import Derived.Test.Qxb6606000aFmtIdx
import Derived.Test.Qxb6606000aFmtApp
import Derived.Laws.IdiomStrings
import Derived.Lib.BufferMore
namespace Go.Proofs.Qxb6606000aFmt.W
open Go.RowKit Go.Lib
open Plain
set_option linter.unusedVariables false
set_option linter.unusedSimpArgs false

def Cloned (n : Nat) (l : List UInt8) (w : World) (e : Ending) (w' : World) : Prop :=
  ∃ g, e = .returned (.slice (some ⟨g, 0, none⟩) n n) ∧ BytesAt g 0 l w' ∧ Below w.heap.size w w'

theorem own_row {W : World} {B n g c : Nat} {xs : List Value} (h : W.ownsRow B 5 1 (.slice (some ⟨g, 0, none⟩) n c) n xs) : ∃ cur : List Value, W.heap[g]? = some (.cells cur.toArray 5 (0, 0)) ∧ cur.length = c := by
  rcases h.2 with ⟨h1, _⟩ | ⟨g', cap, cur, h1, _, h2, _, _, h5, _⟩
  · cases h1
  · cases h1; exact ⟨cur.toList, by simpa using h2, by simpa using h5⟩

theorem size5 : (Tryf.prog.info? 5).map (·.size) = some 1 := by kernel_rfl

theorem splice_all {cur cs : List Value} (h : cur.length = cs.length) : splice cur 0 cs = cs := by
  unfold splice
  rw [List.take_zero, List.nil_append, List.drop_of_length_le (by omega), List.append_nil]

theorem BytesAt.of_row {W : World} {g : Nat} {l : List UInt8} (h : W.heap[g]? = some (.cells (byteCells l).toArray 5 (0, 0))) : BytesAt g 0 l W := by
  intro i c hc
  unfold World.cell?
  simp only [h]
  simp [byteCells, hc]

theorem BytesAt.src {W : World} {g off : Nat} {l : List UInt8} (h : BytesAt g off l W) : ∀ j v, (byteCells l)[j]? = some v → W.cell? ((⟨g, off, none⟩ : Addr).add j) = some v := by
  intro j v hj
  unfold byteCells at hj
  rw [List.getElem?_map, Option.map_eq_some_iff] at hj
  obtain ⟨c, hc, rfl⟩ := hj
  rw [Addr.add_mid]
  exact h j c hc

theorem BytesAt.below {W W' : World} {B g off : Nat} {l : List UInt8} (h : BytesAt g off l W) (hb : Below B W W') (hg : g < B) : BytesAt g off l W' := fun i c hc => (hb.cell (p := ⟨g, off + i, none⟩) hg).trans (h i c hc)

theorem BytesAt.grown {W W' : World} {g off : Nat} {l : List UInt8} {r : Option Nat} (h : BytesAt g off l W) (hg : W.grownBy W' r) (hne : some g ≠ r) : BytesAt g off l W' := fun i c hc => hg.cell (h i c hc) hne

set_option maxRecDepth 100000 in
set_option maxHeartbeats 400000 in
theorem clone_any (g off n c : Nat) (l : List UInt8) (w : World) (hl : l.length = n) (hn : n ≤ 10000000) (hB : BytesAt g off l w) :
    Calls Tryf.prog 10 #[.slice (some ⟨g, off, none⟩) n c] w fun e w' => Cloned n l w e w' := by
  obtain ⟨i0, hi, hz0, hz1, hz2⟩ := info_parts Tryf.info5
  have HL : Hid (l.length = n) := hl
  clear hl
  have hnil := run_eql_slice_some_nil (P := Tryf.prog) w (t := 22) ⟨g, off, none⟩ n c Tryf.underlying22
  go_enter Tryf.func10, Tryf.ntmps10
  go_wp2_with (first
    | (at_make; refine wpList_make_full _ rfl _ _ 22 rfl w.heap.size 5 i0 (.int .u8 0) 1 Tryf.underlying22 hi hz0 hz1 _ _ _ _ n rfl rfl rfl rfl (by rw [hz2]; omega) (by unfold maxLen; omega) (Nat.le_refl _) ?_
       intro w0 hown0 hgrow0; obtain ⟨cur, hcur, hcl⟩ := own_row hown0; have H0 : Hid (w0.heap[w.heap.size]? = some (.cells cur.toArray 5 (0, 0))) := hcur; have H1 : Hid (cur.length = n) := hcl
       have hb0 : Below w.heap.size w w0 := (Below.refl _ _).grown hgrow0 (Nat.le_refl _) (fun k h => by cases h)
       clear hcur hcl hown0)
    | (refine wpList_copy_splice rfl _ _ 22 22 rfl 5 Tryf.underlying22 size5 _ _ n n n c rfl rfl w.heap.size 0 cur 5 H0.out (byteCells l) (by rw [byteCells_length, HL.out]; exact (Nat.min_self n).symm) (fun _ => ⟨rfl, _, rfl, (hB.grown hgrow0 (by simp)).src⟩) (by rw [byteCells_length, HL.out, H1.out]; omega) (bytes_one _) w.heap.size w hb0 (Nat.le_refl _) ?_
       intro w1 H2 hb1))
  go_ret
  refine ⟨w.heap.size, rfl, BytesAt.of_row ?_, hb1⟩
  have := H2.out
  rwa [splice_all (by rw [byteCells_length, HL.out, H1.out])] at this

theorem size55 : (Tryf.prog.info? 55).map (·.size) = some 3 := by kernel_rfl

theorem newField_any (a b c d e f : Nat) (w : World) :
    Calls Tryf.prog 23 #[.slice (some ⟨a, 0, none⟩) b c, .slice (some ⟨d, 0, none⟩) e f, .bool false] w fun en w' => en = .returned (.agg #[.slice (some ⟨a, 0, none⟩) b c, .slice (some ⟨d, 0, none⟩) e f, .bool false]) ∧ Below w.heap.size w w' := by
  go_enter Tryf.func23, Tryf.ntmps23
  go_wp2
  refine bodyPost_ret (results_cell_row rfl _ _ w.heap.size 55 #[.slice (some ⟨a, 0, none⟩) b c, .slice (some ⟨d, 0, none⟩) e f, .bool false] (0, 0) _ rfl (heap_alloc_new _ _) Tryf.underlying55 rfl size55) rfl ?_
  exact ⟨rfl, (Below.refl _ _).alloc (Nat.le_refl _) _⟩

/-- string(b) of bytes that lie there. -/
theorem conv_bytes {W : World} {g n c : Nat} {s : ByteArray} (h : BytesAt g 0 s.data.toList W) (hn : s.size = n) : (convert 22 9 (.slice (some ⟨g, 0, none⟩) n c)).run Tryf.prog W = .ok (.string s) W := by
  subst hn
  have := run_convert_bytes_back (P := Tryf.prog) W 22 9 5 ⟨g, 0, none⟩ c s.data.toList Tryf.underlying22 Tryf.underlying5 Tryf.underlying9 (fun j hj => by
    have h2 := h j s.data.toList[j] (List.getElem?_eq_getElem hj)
    rw [Addr.add_mid]; exact h2)
  rw [← size_eq] at this
  rw [this]

set_option maxRecDepth 100000 in
theorem ftext_any (a b c d n f : Nat) (s : ByteArray) (w : World) (hd : d < w.heap.size) (hB : BytesAt d 0 s.data.toList w) (hn : s.size = n) (h0 : 0 < n) :
    Calls Tryf.prog 56 #[.agg #[.slice (some ⟨a, 0, none⟩) b c, .slice (some ⟨d, 0, none⟩) n f, .bool false]] w fun en w' => en = .returned (.tuple #[.string s, .nilIface]) ∧ Below w.heap.size w w' := by
  have hc := conv_bytes (c := f) (hB.below ((Below.refl _ _).alloc (Nat.le_refl _) (.cells #[.slice (some ⟨a, 0, none⟩) b c, .slice (some ⟨d, 0, none⟩) n f, .bool false] 55)) hd) hn
  clear hn hB
  go_enter Tryf.func56, Tryf.ntmps56
  go_wp2
  go_ret2
  exact ⟨rfl, (Below.refl _ _).alloc (Nat.le_refl _) _⟩

theorem fout_any (a b c d n f : Nat) (s : ByteArray) (w : World) (hd : d < w.heap.size) (hB : BytesAt d 0 s.data.toList w) (hn : s.size = n) (h0 : 0 < n) :
    Calls Tryf.prog 37 #[.agg #[.slice (some ⟨a, 0, none⟩) b c, .slice (some ⟨d, 0, none⟩) n f, .bool false]] w fun en w' => en = .returned (.tuple #[.string s, .nilIface]) ∧ Below w.heap.size w w' := by
  have hb : Below w.heap.size w (w.alloc (.cells #[.slice (some ⟨a, 0, none⟩) b c, .slice (some ⟨d, 0, none⟩) n f, .bool false] 55)) := (Below.refl _ _).alloc (Nat.le_refl _) _
  have R := ftext_any a b c d n f s _ (Nat.lt_of_lt_of_le hd hb.size) (hB.below hb hd) hn h0
  clear hn hB
  go_enter Tryf.func37, Tryf.ntmps37
  go_wp2_with (go_at_call 56; refine R.mono ?_; rintro e w' ⟨rfl, hb'⟩)
  go_ret2
  exact ⟨rfl, hb.trans (hb'.mono hb.size)⟩

theorem zfout_any (a b c d n f : Nat) (s : ByteArray) (w : World) (hd : d < w.heap.size) (hB : BytesAt d 0 s.data.toList w) (hn : s.size = n) (h0 : 0 < n) :
    Calls Tryf.prog 22 #[.agg #[.slice (some ⟨a, 0, none⟩) b c, .slice (some ⟨d, 0, none⟩) n f, .bool false]] w fun en w' => en = .returned (.tuple #[.string s, .nilIface]) ∧ Below w.heap.size w w' := by
  have hb : Below w.heap.size w (w.alloc (.cells #[.slice (some ⟨a, 0, none⟩) b c, .slice (some ⟨d, 0, none⟩) n f, .bool false] 55)) := (Below.refl _ _).alloc (Nat.le_refl _) _
  have R := fout_any a b c d n f s _ (Nat.lt_of_lt_of_le hd hb.size) (hB.below hb hd) hn h0
  clear hn hB
  go_enter Tryf.func22, Tryf.ntmps22
  go_wp2_with (go_at_call 37; refine R.mono ?_; rintro e w' ⟨rfl, hb'⟩)
  go_ret2
  exact ⟨rfl, hb.trans (hb'.mono hb.size)⟩
end Go.Proofs.Qxb6606000aFmt.W
