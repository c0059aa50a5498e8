import Derived.Test.Qxb6606073aCut
import Derived.Laws.Concat
namespace Go.Proofs.Qxb6606073a.W
open Go.RowKit
set_option linter.unusedVariables false
set_option linter.unusedSimpArgs false

/-- Inside coverResource: the closure's variables at e .. e + 5, the resource's box at e + 3. -/
structure Cr (e sb C A : Nat) (M : Option Nat) (rv rg rr : ByteArray) (ra : Bool) (ss : List ByteArray) (v g r : ByteArray) (an : Bool) (nm : ByteArray) (nd : Bool) (w0 w : World) : Prop where
  env : Env e (e + 1) (e + 1 + 1) (e + 1 + 1 + 1 + 1) (e + 1 + 1 + 1 + 1 + 1) sb C A M rv rg rr ra ss v g nm nd w
  r0 : w.cell? ⟨e + 1 + 1 + 1, 0, none⟩ = some (.string r)
  r1 : w.cell? ⟨e + 1 + 1 + 1, 1, none⟩ = some (.bool an)
  bel : Below w0.heap.size w0 w

theorem Cr.below {e sb C A : Nat} {M : Option Nat} {rv rg rr : ByteArray} {ra : Bool} {ss : List ByteArray} {v g r : ByteArray} {an : Bool} {nm : ByteArray} {nd : Bool} {w0 w w' : World} (h : Cr e sb C A M rv rg rr ra ss v g r an nm nd w0 w) (hb : Below w.heap.size w w') :
    Cr e sb C A M rv rg rr ra ss v g r an nm nd w0 w' :=
  ⟨h.env.below hb, cell_below h.r0 hb, cell_below h.r1 hb, h.bel.trans (hb.mono h.bel.size)⟩

theorem put_at (W : World) (c : Array Value) (t : TypeId) (n i : Nat) (x : Value) (hn : n = W.heap.size) (hx : c[i]? = some x) : (W.alloc (.cells c t)).cell? ⟨n, i, none⟩ = some x := by
  subst hn
  unfold World.cell?
  rw [heap_alloc_new]
  exact hx
theorem lift_at {W : World} (o : Obj) {a : Addr} {x : Value} (h : W.cell? a = some x) : (W.alloc o).cell? a = some x := cell_below h ((Below.refl _ _).alloc (Nat.le_refl _) _)
theorem sz (W : World) (o : Obj) : (W.alloc o).heap.size = W.heap.size + 1 := by
  show (W.heap.push o).size = _
  simp

theorem Cr.start {sb C A : Nat} {M : Option Nat} {rv rg rr : ByteArray} {ra : Bool} {ss : List ByteArray} {w : World} (h : CovAt C A M rv rg rr ra ss w) (hs : w.cell? ⟨sb, 0, none⟩ = some (.pointer (some ⟨C, 0, none⟩))) (v g r : ByteArray) (an : Bool) (nm : ByteArray) (nd : Bool)
    (hv : v.size ≤ maxLen) (hg : g.size ≤ maxLen) (hn : nm.size ≤ maxLen) :
    Cr w.heap.size sb C A M rv rg rr ra ss v g r an nm nd w ((((((w.alloc (.cells #[.slice (some ⟨sb, 0, none⟩) 1 1] 63)).alloc (.cells #[.string v] 9)).alloc (.cells #[.string g] 9)).alloc (.cells #[.string r, .bool an] 83)).alloc (.cells #[.string nm] 9)).alloc (.cells #[.bool nd] 4)) := by
  have hb : ∀ (W : World) (o : Obj), Below W.heap.size W (W.alloc o) := fun W o => (Below.refl _ _).alloc (Nat.le_refl _) _
  have b1 := hb w (.cells #[.slice (some ⟨sb, 0, none⟩) 1 1] 63)
  have st : ∀ (W : World) (o : Obj), Below w.heap.size w W → Below w.heap.size w (W.alloc o) := fun W o h => h.trans ((hb W o).mono h.size)
  have bA := st _ (.cells #[.bool nd] 4) (st _ (.cells #[.string nm] 9) (st _ (.cells #[.string r, .bool an] 83) (st _ (.cells #[.string g] 9) (st _ (.cells #[.string v] 9) b1))))
  exact ⟨⟨lift_at _ (lift_at _ (lift_at _ (lift_at _ (lift_at _ (put_at _ _ _ _ 0 _ rfl rfl))))), cell_below hs bA,
    lift_at _ (lift_at _ (lift_at _ (lift_at _ (put_at _ _ _ _ 0 _ (by rw [sz]) rfl)))),
    lift_at _ (lift_at _ (lift_at _ (put_at _ _ _ _ 0 _ (by rw [sz, sz]) rfl))),
    lift_at _ (put_at _ _ _ _ 0 _ (by rw [sz, sz, sz, sz]) rfl),
    put_at _ _ _ _ 0 _ (by rw [sz, sz, sz, sz, sz]) rfl, h.below bA, hv, hg, hn⟩,
    lift_at _ (lift_at _ (put_at _ _ _ _ 0 _ (by rw [sz, sz, sz]) rfl)), lift_at _ (lift_at _ (put_at _ _ _ _ 1 _ (by rw [sz, sz, sz]) rfl)), bA⟩

/-- coverResource, in plain words. -/
def resB (K : ByteArray → Bool → Bool) (r : ByteArray) (an : Bool) : Bool :=
  K r an || K star false || K star true || (!an && (if Lib.indexByte r.data.toList 47 = -1 then K r true else K (⟨#[42, 47]⟩ ++ subOf r (Lib.indexByte r.data.toList 47).toNat) false))

theorem slash_cases (r : ByteArray) : (Lib.indexByte r.data.toList 47 = -1 ∧ ∀ k (hk : k < r.size), r[k] ≠ 47) ∨
    ∃ n, n < r.size ∧ Lib.indexByte r.data.toList 47 = (n : Int) ∧ (∀ k (hk : k < r.size), k < n → r[k] ≠ 47) ∧ ∀ hn : n < r.size, r[n] = 47 := by
  have hg := Lib.indexByte_ge r.data.toList 47
  by_cases h : Lib.indexByte r.data.toList 47 < 0
  · have e : Lib.indexByte r.data.toList 47 = -1 := by omega
    refine .inl ⟨e, fun k hk e2 => ?_⟩
    exact Lib.indexByte_none e k (by rw [Lib.data_getElem? r k hk, e2])
  · obtain ⟨n, hn⟩ := Int.eq_ofNat_of_zero_le (show 0 ≤ Lib.indexByte r.data.toList 47 by omega)
    obtain ⟨h1, h2⟩ := Lib.indexByte_some (o := n) hn
    have hlt : n < r.size := by
      have := (List.getElem?_eq_some_iff.1 h1).1
      rw [Lib.size_eq]; exact this
    refine .inr ⟨n, hlt, hn, fun k hk hkn e2 => h2 k hkn (by rw [Lib.data_getElem? r k hk, e2]), fun hn' => ?_⟩
    have := Lib.data_getElem? r n hn'
    rw [h1] at this
    exact (Option.some.inj this).symm

theorem sub_le (r : ByteArray) (n : Nat) (h : r.size ≤ 4096) : (subOf r n).size ≤ 4096 := by
  unfold subOf
  rw [ByteArray.size_extract]
  omega

theorem sub_size (r : ByteArray) (n : Nat) (h : r.size ≤ 4096) : (⟨#[42, 47]⟩ ++ subOf r n : ByteArray).size ≤ maxLen := by
  have := sub_le r n h
  rw [ByteArray.size_append]
  have e : (ByteArray.mk #[42, 47]).size = 2 := rfl
  unfold maxLen
  omega

/-- One grant covers no two resources. -/
theorem cov_cut {rv rg rr : ByteArray} {ra : Bool} {ss : List ByteArray} {v g r : ByteArray} {nm : ByteArray} {nd : Bool} (n : Nat) (hn : n < r.size) (h : covB rv rg rr ra ss v g r true nm nd = true) : covB rv rg rr ra ss v g (r.extract 0 n) true nm nd = false := by
  have h1 : same rr r = true := by
    unfold covB at h
    simp only [Bool.and_eq_true] at h
    exact h.1.2.1
  have e := same_iff.1 h1
  subst e
  have h2 : same rr (rr.extract 0 n) = false := by
    cases hq : same rr (rr.extract 0 n) with
    | false => rfl
    | true =>
      have e := congrArg ByteArray.size (same_iff.1 hq)
      rw [ByteArray.size_extract] at e
      omega
  unfold covB
  rw [h2]
  simp

set_option maxRecDepth 100000 in
set_option maxHeartbeats 4000000 in
theorem cover_any {sb C A : Nat} {M : Option Nat} {rv rg rr : ByteArray} {ra : Bool} {ss : List ByteArray} {w : World} (h : CovAt C A M rv rg rr ra ss w) (hs : w.cell? ⟨sb, 0, none⟩ = some (.pointer (some ⟨C, 0, none⟩))) (v g r : ByteArray) (an : Bool) (nm : ByteArray) (nd : Bool)
    (hv : v.size ≤ maxLen) (hg : g.size ≤ maxLen) (hn : nm.size ≤ maxLen) (hr : r.size ≤ 4096) :
    Calls Try.prog 50 #[.slice (some ⟨sb, 0, none⟩) 1 1, .string v, .string g, .agg #[.string r, .bool an], .string nm, .bool nd] w fun e w' =>
      e = .returned (.bool (resB (fun x a => covB rv rg rr ra ss v g x a nm nd) r an)) ∧ Below w.heap.size w w' := by
  have hr' : r.size ≤ maxLen := by unfold maxLen; omega
  have hst : star.size ≤ maxLen := by decide
  have E0 := Cr.start h hs v g r an nm nd hv hg hn
  go_enter Try.func50, Try.ntmps50
  go_wp2_with fail
  generalize ((((((w.alloc (.cells #[.slice (some ⟨sb, 0, none⟩) 1 1] 63)).alloc (.cells #[.string v] 9)).alloc (.cells #[.string g] 9)).alloc (.cells #[.string r, .bool an] 83)).alloc (.cells #[.string nm] 9)).alloc (.cells #[.bool nd] 4)) = W0 at E0 ⊢
  cases hb1 : covB rv rg rr ra ss v g r an nm nd with
  | true =>
    have R0 := held_any E0.env r an hr'
    rw [hb1] at R0
    refine R0.mono ?_
    rintro e W1 ⟨rfl, q0⟩
    have E1 := E0.below q0
    clear R0
    have r0 := E1.r0
    have r1 := E1.r1
    go_wp2
    go_ret
    exact ⟨by unfold resB; simp [hb1], E1.bel⟩
  | false =>
  have R0 := held_any E0.env r an hr'
  rw [hb1] at R0
  refine R0.mono ?_
  rintro e W1 ⟨rfl, q0⟩
  have E1 := E0.below q0
  clear R0
  have r0 := E1.r0
  have r1 := E1.r1
  cases hb2 : covB rv rg rr ra ss v g star false nm nd with
  | true =>
    go_wp2_with fail
    go_at_call 53
    have R1 := held_any E1.env star false hst
    rw [hb2] at R1
    refine R1.mono ?_
    rintro e W2 ⟨rfl, q1⟩
    have E2 := E1.below q1
    clear R1
    have r0 := E2.r0
    have r1 := E2.r1
    go_wp2
    go_ret
    exact ⟨by unfold resB; simp [hb2], E2.bel⟩
  | false =>
  go_wp2_with fail
  go_at_call 53
  have R1 := held_any E1.env star false hst
  rw [hb2] at R1
  refine R1.mono ?_
  rintro e W2 ⟨rfl, q1⟩
  have E2 := E1.below q1
  clear R1
  have r0 := E2.r0
  have r1 := E2.r1
  cases hb3 : covB rv rg rr ra ss v g star true nm nd with
  | true =>
    go_wp2_with fail
    go_at_call 53
    have R2 := held_any E2.env star true hst
    rw [hb3] at R2
    refine R2.mono ?_
    rintro e W3 ⟨rfl, q2⟩
    have E3 := E2.below q2
    clear R2
    have r0 := E3.r0
    have r1 := E3.r1
    go_wp2
    go_ret
    exact ⟨by unfold resB; simp [hb3], E3.bel⟩
  | false =>
  go_wp2_with fail
  go_at_call 53
  have R2 := held_any E2.env star true hst
  rw [hb3] at R2
  refine R2.mono ?_
  rintro e W3 ⟨rfl, q2⟩
  have E3 := E2.below q2
  clear R2
  have r0 := E3.r0
  have r1 := E3.r1
  cases an with
  | true =>
    go_wp2
    go_ret
    exact ⟨by unfold resB; simp [hb1, hb2, hb3], E3.bel⟩
  | false =>
  rcases slash_cases r with h47 | ⟨n, hn47, h47, hbef, hat⟩
  · go_wp2_with fail
    go_at_call 56
    refine (cut_no r W3 h47.1).mono ?_
    rintro e W4 ⟨rfl, q3⟩
    have E4 := E3.below q3
    have r0 := E4.r0
    have r1 := E4.r1
    cases hb5 : covB rv rg rr ra ss v g r true nm nd with
    | false =>
      go_wp2_with fail
      go_at_call 53
      have R4 := held_any E4.env r true hr'
      rw [hb5] at R4
      refine R4.mono ?_
      rintro e W5 ⟨rfl, q4⟩
      have E5 := E4.below q4
      clear R4
      have r0 := E5.r0
      have r1 := E5.r1
      go_wp2
      go_ret
      exact ⟨by unfold resB; simp [hb1, hb2, hb3, hb5, h47.1], E5.bel⟩
    | true =>
      go_wp2_with fail
      go_at_call 53
      have R4 := held_any E4.env r true hr'
      rw [hb5] at R4
      refine R4.mono ?_
      rintro e W5 ⟨rfl, q4⟩
      have E5 := E4.below q4
      clear R4
      have r0 := E5.r0
      have r1 := E5.r1
      have HN : Hid (∀ k (hk : k < r.size), r[k] ≠ 47) := h47.2
      go_wp2_with fail
      go_loop [17, 58] (fun _ i => ∃ k : Nat, k ≤ r.size ∧ i = .int .i64 k) (fun _ i => r.size - (intOf i).toNat)
      case atStart => exact ⟨0, Nat.zero_le _, rfl⟩
      case round =>
        obtain ⟨k, hk, rfl⟩ := hrel
        by_cases hkr : k < r.size
        · obtain ⟨c, hc⟩ : ∃ c, r[k] = c := ⟨_, rfl⟩
          have hne : ((c.toNat : Int) == 47) = false := beq_eq_false_iff_ne.2 (fun e => HN.out k hkr (by rw [hc]; exact UInt8.toNat_inj.1 (by simpa using Int.ofNat.inj e)))
          go_wp2
          go_round
          case rel => exact ⟨k + 1, by omega, by go_num⟩
          case measure => simp [intOf]; omega
        · go_wp2
          go_ret
          exact ⟨by unfold resB; simp [hb1, hb2, hb3, hb5, h47.1], E5.bel⟩
  · have hsub : (⟨#[42, 47]⟩ ++ subOf r n : ByteArray).size ≤ maxLen := sub_size r n hr
    have hsz : (subOf r n).size ≤ 4096 := sub_le r n hr
    have hres : (if Lib.indexByte r.data.toList 47 = -1 then covB rv rg rr ra ss v g r true nm nd else covB rv rg rr ra ss v g (⟨#[42, 47]⟩ ++ subOf r (Lib.indexByte r.data.toList 47).toNat) false nm nd) = covB rv rg rr ra ss v g (⟨#[42, 47]⟩ ++ subOf r n) false nm nd := by
      rw [h47, if_neg (by omega)]; rfl
    go_wp2_with fail
    go_at_call 56
    refine (cut_at r n W3 h47 hn47 hr).mono ?_
    rintro e W4 ⟨a, rfl, q3⟩
    have E4 := E3.below q3
    have r0 := E4.r0
    have r1 := E4.r1
    obtain ⟨u, hu⟩ : ∃ u, subOf r n = u := ⟨_, rfl⟩
    rw [hu] at hsub hsz hres ⊢
    cases hb4 : covB rv rg rr ra ss v g (⟨#[42, 47]⟩ ++ u) false nm nd with
    | true =>
      go_wp2_with fail
      go_at_call 53
      have R4 := held_any E4.env (⟨#[42, 47]⟩ ++ u) false hsub
      rw [hb4] at R4
      refine R4.mono ?_
      rintro e W5 ⟨rfl, q4⟩
      have E5 := E4.below q4
      clear R4
      have r0 := E5.r0
      have r1 := E5.r1
      go_wp2
      go_ret
      refine ⟨?_, E5.bel⟩
      rw [hb4] at hres
      unfold resB
      rw [hres]; simp
    | false =>
      go_wp2_with fail
      go_at_call 53
      have R4 := held_any E4.env (⟨#[42, 47]⟩ ++ u) false hsub
      rw [hb4] at R4
      refine R4.mono ?_
      rintro e W5 ⟨rfl, q4⟩
      have E5 := E4.below q4
      clear R4
      have r0 := E5.r0
      have r1 := E5.r1
      rw [hb4] at hres
      cases hb5 : covB rv rg rr ra ss v g r true nm nd with
      | false =>
        go_wp2_with fail
        go_at_call 53
        have R5 := held_any E5.env r true hr'
        rw [hb5] at R5
        refine R5.mono ?_
        rintro e W6 ⟨rfl, q5⟩
        have E6 := E5.below q5
        clear R5
        have r0 := E6.r0
        have r1 := E6.r1
        go_wp2
        go_ret
        refine ⟨?_, E6.bel⟩
        unfold resB
        rw [hres]; simp [hb1, hb2, hb3]
      | true =>
        go_wp2_with fail
        go_at_call 53
        have R5 := held_any E5.env r true hr'
        rw [hb5] at R5
        refine R5.mono ?_
        rintro e W6 ⟨rfl, q5⟩
        have E6 := E5.below q5
        clear R5
        have r0 := E6.r0
        have r1 := E6.r1
        have HN : Hid (∀ k (hk : k < r.size), k < n → r[k] ≠ 47) := hbef
        have hb6 := cov_cut n hn47 hb5
        have hxs : (r.extract 0 n).size ≤ maxLen := by rw [ByteArray.size_extract]; unfold maxLen; omega
        go_wp2_with fail
        go_loop [17, 58] (fun _ i => ∃ k : Nat, k ≤ n ∧ i = .int .i64 k) (fun _ i => r.size - (intOf i).toNat)
        case atStart => exact ⟨0, Nat.zero_le _, rfl⟩
        case round =>
          obtain ⟨k, hk, rfl⟩ := hrel
          have hkr : k < r.size := by omega
          by_cases hkn : k < n
          · obtain ⟨c, hc⟩ : ∃ c, r[k] = c := ⟨_, rfl⟩
            have hne : ((c.toNat : Int) == 47) = false := beq_eq_false_iff_ne.2 (fun e => HN.out k hkr hkn (by rw [hc]; exact UInt8.toNat_inj.1 (by simpa using Int.ofNat.inj e)))
            go_wp2
            go_round
            case rel => exact ⟨k + 1, by omega, by go_num⟩
            case measure => simp [intOf]; omega
          · obtain rfl : k = n := by omega
            have hc : r[k] = 47 := hat hkr
            go_wp2_with fail
            go_at_call 53
            have R6 := held_any E6.env (r.extract 0 k) true hxs
            rw [hb6] at R6
            refine R6.mono ?_
            rintro e W7 ⟨rfl, q6⟩
            have E7 := E6.below q6
            go_wp2
            go_ret
            refine ⟨?_, E7.bel⟩
            unfold resB
            rw [hres]; simp [hb1, hb2, hb3]
end Go.Proofs.Qxb6606073a.W
