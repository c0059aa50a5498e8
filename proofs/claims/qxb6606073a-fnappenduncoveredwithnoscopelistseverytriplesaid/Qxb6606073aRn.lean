import Derived.Test.Qxb6606073aRd
import Derived.Test.Qxb6606073aCut
import Derived.Laws.Concat
namespace Go.Proofs.Qxb6606073a.W
open Go.RowKit
set_option linter.unusedVariables false
set_option linter.unusedSimpArgs false

set_option maxRecDepth 100000 in
theorem scut_at2 (s : ByteArray) (n : Nat) (w : World) (h : Lib.indexByte s.data.toList 47 = n) (hn : n < s.size) (hs : s.size ≤ 1048576) :
    Calls Try.prog 58 #[.string s, .string ⟨#[47]⟩] w fun e w' => ∃ a, e = .returned (.tuple #[.string a, .string (subOf s n), .bool true]) ∧ Below w.heap.size w w' := by
  have R := sidx_any s w
  rw [h] at R
  clear h
  have h1 : (ByteArray.mk #[47]).size = 1 := rfl
  have h2 : (n : Int) + 1 ≤ (s.size : Int) := by omega
  go_enter Try.func58, Try.ntmps58
  go_wp2_with (go_at_call 59; refine R.mono ?_; rintro e w' ⟨rfl, rfl⟩)
  go_quiet (fail)
  go_wp2
  go_ret3
  exact ⟨_, rfl, below_drewN _ _ _⟩

theorem cut_at2 (s : ByteArray) (n : Nat) (w : World) (h : Lib.indexByte s.data.toList 47 = n) (hn : n < s.size) (hs : s.size ≤ 1048576) :
    Calls Try.prog 56 #[.string s, .string ⟨#[47]⟩] w fun e w' => ∃ a, e = .returned (.tuple #[.string a, .string (subOf s n), .bool true]) ∧ Below w.heap.size w w' := by
  have R := scut_at2 s n w h hn hs
  clear h
  generalize subOf s n = t at R ⊢
  go_enter Try.func56, Try.ntmps56
  go_wp2_with (go_at_call 58; refine R.mono ?_; rintro e w' ⟨a, rfl, hb⟩)
  go_ret3
  exact ⟨_, rfl, hb⟩

set_option maxRecDepth 100000 in
theorem index_nil (f : Value) (w : World) : Calls Try.prog 57 #[.slice none 0 0, f] w fun e w' => e = .returned (.int .i64 (-1)) ∧ w = w' := by
  go_enter Try.func57, Try.ntmps57
  go_wp2
  refine wp_loop_rounds 1 ?_
  rw [rounds_succ]
  go_wp2
  go_ret
  exact ⟨rfl, rfl⟩

theorem contains_nil (f : Value) (w : World) : Calls Try.prog 54 #[.slice none 0 0, f] w fun e w' => e = .returned (.bool false) ∧ w = w' := by
  have R := index_nil f w
  go_enter Try.func54, Try.ntmps54
  go_wp2_with (go_at_call 57; refine R.mono ?_; rintro e w' ⟨rfl, rfl⟩)
  go_ret
  exact ⟨rfl, rfl⟩

theorem held_nil {e0 e1 e2 e3 e4 : Nat} {w : World} (h : w.cell? ⟨e0, 0, none⟩ = some (.slice none 0 0)) (r : ByteArray) (an : Bool) :
    Calls Try.prog 53 #[.agg #[.string r, .bool an], .pointer (some ⟨e0, 0, none⟩), .pointer (some ⟨e1, 0, none⟩), .pointer (some ⟨e2, 0, none⟩), .pointer (some ⟨e3, 0, none⟩), .pointer (some ⟨e4, 0, none⟩)] w fun e w' =>
      e = .returned (.bool false) ∧ Below w.heap.size w w' := by
  have hb0 : Below w.heap.size w (w.alloc (.cells #[.string r, .bool an] 83)) := (Below.refl _ _).alloc (Nat.le_refl _) _
  have hl := World.block_lt_of_cell? w _ h
  have R := fun f => contains_nil f (w.alloc (.cells #[.string r, .bool an] 83))
  go_enter Try.func53, Try.ntmps53
  go_wp2_with (go_at_call 54; refine (R _).mono ?_; rintro e w' ⟨rfl, rfl⟩)
  go_ret
  exact ⟨rfl, hb0⟩

/-- Inside coverResource with no scope. -/
structure Cn (e : Nat) (r : ByteArray) (an : Bool) (w0 w : World) : Prop where
  c0 : w.cell? ⟨e, 0, none⟩ = some (.slice none 0 0)
  r0 : w.cell? ⟨e + 1 + 1 + 1, 0, none⟩ = some (.string r)
  r1 : w.cell? ⟨e + 1 + 1 + 1, 1, none⟩ = some (.bool an)
  bel : Below w0.heap.size w0 w

theorem Cn.below {e : Nat} {r : ByteArray} {an : Bool} {w0 w w' : World} (h : Cn e r an w0 w) (hb : Below w.heap.size w w') : Cn e r an w0 w' :=
  ⟨cell_below' h.c0 hb, cell_below' h.r0 hb, cell_below' h.r1 hb, h.bel.trans (hb.mono h.bel.size)⟩

theorem putN (W : World) (c : Array Value) (t : TypeId) (n i : Nat) (x : Value) (hn : n = W.heap.size) (hx : c[i]? = some x) : (W.alloc (.cells c t)).cell? ⟨n, i, none⟩ = some x := by
  subst hn
  unfold World.cell?
  rw [heap_alloc_new]
  exact hx
theorem liftN {W : World} (o : Obj) {a : Addr} {x : Value} (h : W.cell? a = some x) : (W.alloc o).cell? a = some x := cell_below' h ((Below.refl _ _).alloc (Nat.le_refl _) _)
theorem szN (W : World) (o : Obj) : (W.alloc o).heap.size = W.heap.size + 1 := by
  show (W.heap.push o).size = _
  simp

theorem Cn.start (v g r : ByteArray) (an : Bool) (nm : ByteArray) (nd : Bool) (w : World) :
    Cn w.heap.size r an w ((((((w.alloc (.cells #[.slice none 0 0] 63)).alloc (.cells #[.string v] 9)).alloc (.cells #[.string g] 9)).alloc (.cells #[.string r, .bool an] 83)).alloc (.cells #[.string nm] 9)).alloc (.cells #[.bool nd] 4)) := by
  have hb : ∀ (W : World) (o : Obj), Below W.heap.size W (W.alloc o) := fun W o => (Below.refl _ _).alloc (Nat.le_refl _) _
  have b1 := hb w (.cells #[.slice none 0 0] 63)
  have st : ∀ (W : World) (o : Obj), Below w.heap.size w W → Below w.heap.size w (W.alloc o) := fun W o h => h.trans ((hb W o).mono h.size)
  have bA := st _ (.cells #[.bool nd] 4) (st _ (.cells #[.string nm] 9) (st _ (.cells #[.string r, .bool an] 83) (st _ (.cells #[.string g] 9) (st _ (.cells #[.string v] 9) b1))))
  exact ⟨liftN _ (liftN _ (liftN _ (liftN _ (liftN _ (putN _ _ _ _ 0 _ rfl rfl))))), liftN _ (liftN _ (putN _ _ _ _ 0 _ (by rw [szN, szN, szN]) rfl)), liftN _ (liftN _ (putN _ _ _ _ 1 _ (by rw [szN, szN, szN]) rfl)), bA⟩

theorem slash_two (r : ByteArray) : Lib.indexByte r.data.toList 47 = -1 ∨ ∃ n, n < r.size ∧ Lib.indexByte r.data.toList 47 = (n : Int) := by
  have hg := Lib.indexByte_ge r.data.toList 47
  by_cases h : Lib.indexByte r.data.toList 47 < 0
  · exact .inl (by omega)
  · obtain ⟨n, hn⟩ := Int.eq_ofNat_of_zero_le (show 0 ≤ Lib.indexByte r.data.toList 47 by omega)
    obtain ⟨h1, h2⟩ := Lib.indexByte_some (o := n) hn
    refine .inr ⟨n, ?_, hn⟩
    have := (List.getElem?_eq_some_iff.1 h1).1
    rw [Lib.size_eq]; exact this

set_option maxRecDepth 100000 in
set_option maxHeartbeats 4000000 in
theorem cover_nil (v g r : ByteArray) (an : Bool) (nm : ByteArray) (nd : Bool) (w : World) (hr : r.size ≤ 1048576) :
    Calls Try.prog 50 #[.slice none 0 0, .string v, .string g, .agg #[.string r, .bool an], .string nm, .bool nd] w fun e w' =>
      e = .returned (.bool false) ∧ Below w.heap.size w w' := by
  have E0 := Cn.start v g r an nm nd w
  go_enter Try.func50, Try.ntmps50
  go_wp2_with fail
  generalize ((((((w.alloc (.cells #[.slice none 0 0] 63)).alloc (.cells #[.string v] 9)).alloc (.cells #[.string g] 9)).alloc (.cells #[.string r, .bool an] 83)).alloc (.cells #[.string nm] 9)).alloc (.cells #[.bool nd] 4)) = W0 at E0 ⊢
  refine (held_nil E0.c0 r an).mono ?_
  rintro e W1 ⟨rfl, q0⟩
  have E1 := E0.below q0
  have r0 := E1.r0
  have r1 := E1.r1
  go_wp2_with fail
  go_at_call 53
  refine (held_nil E1.c0 _ _).mono ?_
  rintro e W2 ⟨rfl, q1⟩
  have E2 := E1.below q1
  have r0 := E2.r0
  have r1 := E2.r1
  go_wp2_with fail
  go_at_call 53
  refine (held_nil E2.c0 _ _).mono ?_
  rintro e W3 ⟨rfl, q2⟩
  have E3 := E2.below q2
  have r0 := E3.r0
  have r1 := E3.r1
  cases an with
  | true =>
    go_wp2
    go_ret
    exact ⟨rfl, E3.bel⟩
  | false =>
  rcases slash_two r with h47 | ⟨n, hn47, h47⟩
  · go_wp2_with fail
    go_at_call 56
    refine (cut_no r W3 h47).mono ?_
    rintro e W4 ⟨rfl, q3⟩
    have E4 := E3.below q3
    have r0 := E4.r0
    have r1 := E4.r1
    go_wp2_with fail
    go_at_call 53
    refine (held_nil E4.c0 _ _).mono ?_
    rintro e W5 ⟨rfl, q4⟩
    have E5 := E4.below q4
    have r0 := E5.r0
    have r1 := E5.r1
    go_wp2
    go_ret
    exact ⟨rfl, E5.bel⟩
  · have hsz : (subOf r n).size ≤ 1048576 := by
      unfold subOf
      rw [ByteArray.size_extract]
      omega
    go_wp2_with fail
    go_at_call 56
    refine (cut_at2 r n W3 h47 hn47 hr).mono ?_
    rintro e W4 ⟨a, rfl, q3⟩
    have E4 := E3.below q3
    have r0 := E4.r0
    have r1 := E4.r1
    obtain ⟨u, hu⟩ : ∃ u, subOf r n = u := ⟨_, rfl⟩
    rw [hu] at hsz ⊢
    clear hu
    go_wp2_with fail
    go_at_call 53
    refine (held_nil E4.c0 _ _).mono ?_
    rintro e W5 ⟨rfl, q4⟩
    have E5 := E4.below q4
    have r0 := E5.r0
    have r1 := E5.r1
    go_wp2_with fail
    go_at_call 53
    refine (held_nil E5.c0 _ _).mono ?_
    rintro e W6 ⟨rfl, q5⟩
    have E6 := E5.below q5
    have r0 := E6.r0
    have r1 := E6.r1
    go_wp2
    go_ret
    exact ⟨rfl, E6.bel⟩

theorem covered_nil {b0 b1 b2 b3 : Nat} {v g r : ByteArray} {an : Bool} {w : World} (h0 : w.cell? ⟨b0, 0, none⟩ = some (.slice none 0 0)) (h1 : w.cell? ⟨b1, 0, none⟩ = some (.string v)) (h2 : w.cell? ⟨b2, 0, none⟩ = some (.string g))
    (h3 : w.cell? ⟨b3, 0, none⟩ = some (.string r)) (h4 : w.cell? ⟨b3, 1, none⟩ = some (.bool an)) (nm : ByteArray) (nd : Bool) (hr : r.size ≤ 1048576) :
    Calls Try.prog 51 #[.string nm, .bool nd, .pointer (some ⟨b0, 0, none⟩), .pointer (some ⟨b1, 0, none⟩), .pointer (some ⟨b2, 0, none⟩), .pointer (some ⟨b3, 0, none⟩)] w fun e w' => e = .returned (.bool false) ∧ Below w.heap.size w w' := by
  have R := cover_nil v g r an nm nd w hr
  go_enter Try.func51, Try.ntmps51
  go_wp2_with (go_at_call 50; refine R.mono ?_; rintro e w' ⟨rfl, hb⟩)
  go_ret
  exact ⟨rfl, hb⟩
end Go.Proofs.Qxb6606073a.W
