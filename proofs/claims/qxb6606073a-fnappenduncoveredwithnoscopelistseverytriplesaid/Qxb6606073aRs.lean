import Derived.Test.Qxb6606073aRc
namespace Go.Proofs.Qxb6606073a.W
open Go.RowKit
set_option linter.unusedVariables false
set_option linter.unusedSimpArgs false

theorem mcI_over {a b : Int} (ha : 67108865 ≤ a) (hb : 1 ≤ b) : mcI a b = 67108865 := by
  unfold mcI
  rw [if_neg]
  have h1 : 0 ≤ (a - 1) * (b - 1) := Int.mul_nonneg (by omega) (by omega)
  rw [Int.sub_mul, Int.mul_sub, Int.mul_sub] at h1
  omega

theorem mcI_small {a b : Int} (h : mcI a b ≤ 67108864) : mcI a b = a * b := by
  unfold mcI at h ⊢
  split at h
  · rw [if_pos ‹_›]
  · omega

theorem trip_eq {d : Rd} (h : trip d ≤ 67108864) : trip d = ((d.v.length * d.g.length * d.r.length : Nat) : Int) := by
  unfold trip at h ⊢
  rw [Int.natCast_mul, Int.natCast_mul]
  by_cases hr : d.r.length = 0
  · rw [hr]
    unfold mcI
    simp
  · by_cases hv : mcI (d.v.length : Int) d.g.length ≤ 67108864
    · rw [mcI_small h, mcI_small hv]
    · rw [mcI_over (by omega) (by omega)] at h
      omega

theorem wrapS {n : Int} (h0 : 0 ≤ n) (h1 : n < 9223372036854775808) : IntKind.i64.wrap n = n := by
  rw [IntKind.wrap_i64]
  omega

theorem box_cell (w : World) (c : Array Value) (t : TypeId) (q i : Nat) (x : Value) (h : c[i]? = some x) : ((w.alloc (.cells c t)).drewN q).cell? ⟨w.heap.size, i, none⟩ = some x := by
  have e : ((w.alloc (.cells c t)).drewN q).heap[w.heap.size]? = some (.cells c t) := Go.heap_alloc_new w _
  unfold World.cell?
  simp only [e]
  simpa using h

set_option maxRecDepth 100000 in
set_option maxHeartbeats 2000000 in
theorem noScope_any {e : El} {d : Rd} {w : World} (h : RuleV e d w) (hok : Ok d) :
    Calls Try.prog 10 #[.agg #[e.c0, e.c1, e.c2, e.c3, e.c4, .bool e.an]] w fun en w' => RBel (fun r => r ≤ 67108864 → trip d ≤ 67108864) w en w' := by
  have hV := h
  obtain ⟨c0, c1, c2, c3, c4, an⟩ := e
  have Q0 : Hid (∀ o n, StrsAt c0 d.v ((w.alloc o).drewN n)) := fun o n => W.StrsAt.below h.s0 (below_box w o n)
  have Q1 : Hid (∀ o n, StrsAt c1 d.g ((w.alloc o).drewN n)) := fun o n => W.StrsAt.below h.s1 (below_box w o n)
  have Q2 : Hid (∀ o n, StrsAt c2 d.r ((w.alloc o).drewN n)) := fun o n => W.StrsAt.below h.s2 (below_box w o n)
  obtain ⟨o3, k3, x3⟩ := StrsAt.len h.s3
  simp only at x3
  subst x3
  have y3 := hok.n.1
  obtain ⟨p0, p1⟩ := ml_le hok.v
  obtain ⟨p2, p3⟩ := ml_le hok.g
  obtain ⟨p4, p5⟩ := ml_le hok.r
  have HV : Hid (∀ w', Below w.heap.size w w' → RuleV ⟨c0, c1, c2, .slice o3 d.n.length k3, c4, an⟩ d w') := fun w' hb => hV.below hb
  have HK : Hid (Ok d) := hok
  have t0 := mcI_ge (a := mcI d.v.length d.g.length) (b := d.r.length) (mcI_ge (by omega) (by omega)).1 (by omega)
  have HT : Hid (trip d = mcI (mcI d.v.length d.g.length) d.r.length) := rfl
  obtain ⟨T, hT⟩ : ∃ T, trip d = T := ⟨_, rfl⟩
  have t1 : 0 ≤ T ∧ T ≤ 67108865 := by rw [← hT, HT.out]; exact t0
  obtain ⟨t2, t3⟩ := t1
  have HTT : Hid (trip d = T) := hT
  obtain ⟨n, hn⟩ : ∃ n, d.n.length = n := ⟨_, rfl⟩
  rw [hn] at y3 HV ⊢
  rw [hT]
  clear h hV hok t0 HT hT
  go_enter Try.func10, Try.ntmps10
  go_wp2_with fail
  go_quiet (first
    | (go_at_call 41; first | exact Calls.quiet_of_same (maxLen_any (Q0.out _ _) HK.out.v) | exact Calls.quiet_of_same (maxLen_any (Q1.out _ _) HK.out.g) | exact Calls.quiet_of_same (maxLen_any (Q2.out _ _) HK.out.r)))
  generalize ml d.v = A at *
  generalize ml d.g = B at *
  generalize ml d.r = C at *
  obtain ⟨m1, m2⟩ := mcI_ge (a := T) (b := 1 + n) (by omega) (by omega)
  obtain ⟨M, hM⟩ : ∃ M, mcI T (1 + n) = M := ⟨_, rfl⟩
  have HM : Hid (mcI T (1 + n) = M) := hM
  have WR : Hid (IntKind.i64.wrap (1 + (n : Int)) = 1 + n) := wrapS (by omega) (by omega)
  rw [hM] at m1 m2
  clear hM
  go_wp2_with fail
  go_region_with (first
    | (go_at_call 16; refine (triples_any (HV.out _ (below_box _ _ _)) HK.out).mono ?_; rintro en w2 ⟨rfl, hb2⟩; rw [HTT.out]; have hc3 : w2.cell? ⟨w.heap.size, 3, none⟩ = some (.slice o3 n k3) := cell_below' (box_cell _ _ _ _ 3 _ rfl) hb2)
    | (go_at_call_of 42 (Value.int IntKind.i64 T); try rw [WR.out]; refine (mulCapI_any T (1 + n) _ (by omega) (by omega) (by omega) (by omega)).mono ?_; rintro en w3 ⟨rfl, hw3⟩; have hw4 := hw3.symm; subst hw4; rw [HM.out])
    | (go_at_call_of 42 (Value.int IntKind.i64 M); refine (mulCapI_any M (1 + n + A + B + C) _ (by omega) (by omega) (by omega) (by omega)).mono ?_; rintro en w4 ⟨rfl, hw5⟩; have hw6 := hw5.symm; subst hw6))
  all_goals go_wp2
  all_goals go_ret
  all_goals
    refine ⟨_, rfl, (below_box _ _ _).trans (hb2.mono (below_box _ _ _).size), fun hle => ?_⟩
    by_cases hT : T ≤ 67108864
    · exact hT
    · exfalso
      have e1 := HM.out
      rw [mcI_over (by omega) (by omega)] at e1
      rw [← e1, mcI_over (by omega) (by omega)] at hle
      omega
end Go.Proofs.Qxb6606073a.W
