import Derived.Test.Qxb6606073aRd
import Derived.Deep.QuietTactic
import Derived.BigQuiet
import Derived.Deep.RegionWith
import Derived.Deep.Cut
import Derived.Deep.DeepCutAuto
namespace Go.Proofs.Qxb6606073a.W
open Go.RowKit
set_option linter.unusedVariables false
set_option linter.unusedSimpArgs false

theorem below_drew (B : Nat) (w : World) (q : Nat) : Below B w (w.drewN q) := ⟨rfl, rfl, rfl, Nat.le_refl _, fun _ _ => rfl⟩
theorem below_box (w : World) (o : Obj) (q : Nat) : Below w.heap.size w ((w.alloc o).drewN q) := ((Below.refl _ _).alloc (Nat.le_refl _) _).trans (below_drew _ _ _)

def mcI (a b : Int) : Int := if a * b ≤ 67108864 then a * b else 67108865
theorem mulCapI_any (a b : Int) (w : World) (h0 : 0 ≤ a) (ha : a ≤ 4611686018427387904) (h1 : 0 ≤ b) (hb : b ≤ 4611686018427387904) :
    Calls Try.prog 42 #[.int .i64 a, .int .i64 b] w fun e w' => e = .returned (.int .i64 (mcI a b)) ∧ w' = w := by
  obtain ⟨x, rfl⟩ := Int.eq_ofNat_of_zero_le h0
  obtain ⟨y, rfl⟩ := Int.eq_ofNat_of_zero_le h1
  have e : mcI (x : Int) (y : Int) = (mc x y : Nat) := by
    unfold mcI mc
    by_cases h : x * y ≤ 67108864
    · rw [if_pos h, if_pos (by have := Int.ofNat_le.2 h; rw [Int.natCast_mul] at this; exact this), Int.natCast_mul]
    · rw [if_neg h, if_neg (fun h2 => h (by have : ((x * y : Nat) : Int) ≤ (67108864 : Nat) := by { rw [Int.natCast_mul]; exact h2 }; exact Int.ofNat_le.1 this))]; rfl
  rw [e]
  exact mulCap_any x y w (by omega) (by omega)

theorem mcI_ge {a b : Int} (h0 : 0 ≤ a) (h1 : 0 ≤ b) : 0 ≤ mcI a b ∧ mcI a b ≤ 67108865 := by
  have := Int.mul_nonneg h0 h1
  unfold mcI
  split <;> omega

def capI (n : Int) : Int := if n ≤ 1048576 then n else 1048577
set_option maxRecDepth 100000 in
theorem capB_any (n : Int) (w : World) (h0 : 0 ≤ n) (h1 : n ≤ 9000000) :
    Calls Try.prog 40 #[.int .i64 n] w fun e w' => e = .returned (.int .i64 (capI n)) ∧ w' = w := by
  unfold capI
  by_cases h : n ≤ 1048576
  · rw [if_pos h]
    go_enter Try.func40, Try.ntmps40
    go_wp2
    go_ret
    exact ⟨rfl, rfl⟩
  · rw [if_neg h]
    go_enter Try.func40, Try.ntmps40
    go_wp2
    go_ret
    exact ⟨rfl, rfl⟩

def rb (d : Rd) : Int := capI (128 + sb d.v + sb d.g + sb d.r + sb d.n + sb d.b)

theorem rb_le (d : Rd) : 128 ≤ rb d ∧ rb d ≤ 1048577 ∧ (rb d ≤ 1048576 → Ok d) := by
  obtain ⟨a0, a1, a2⟩ := sb_le d.v
  obtain ⟨b0, b1, b2⟩ := sb_le d.g
  obtain ⟨c0, c1, c2⟩ := sb_le d.r
  obtain ⟨d0, d1, d2⟩ := sb_le d.n
  obtain ⟨e0, e1, e2⟩ := sb_le d.b
  unfold rb capI
  split
  · exact ⟨by omega, by omega, fun h => ⟨a2 (by omega), b2 (by omega), c2 (by omega), d2 (by omega), e2 (by omega)⟩⟩
  · exact ⟨by omega, by omega, fun h => by omega⟩

set_option maxRecDepth 100000 in
set_option maxHeartbeats 2000000 in
theorem ruleBytes_any {e : El} {d : Rd} {w : World} (h : RuleV e d w) :
    Calls Try.prog 9 #[.agg #[e.c0, e.c1, e.c2, e.c3, e.c4, .bool e.an]] w fun en w' => en = .returned (.int .i64 (rb d)) ∧ Below w.heap.size w w' := by
  obtain ⟨c0, c1, c2, c3, c4, an⟩ := e
  have q0 := fun o n => W.StrsAt.below h.s0 (below_box w o n)
  have q1 := fun o n => W.StrsAt.below h.s1 (below_box w o n)
  have q2 := fun o n => W.StrsAt.below h.s2 (below_box w o n)
  have q3 := fun o n => W.StrsAt.below h.s3 (below_box w o n)
  have q4 := fun o n => W.StrsAt.below h.s4 (below_box w o n)
  have Q0 : Hid (∀ o n, StrsAt c0 d.v ((w.alloc o).drewN n)) := q0
  have Q1 : Hid (∀ o n, StrsAt c1 d.g ((w.alloc o).drewN n)) := q1
  have Q2 : Hid (∀ o n, StrsAt c2 d.r ((w.alloc o).drewN n)) := q2
  have Q3 : Hid (∀ o n, StrsAt c3 d.n ((w.alloc o).drewN n)) := q3
  have Q4 : Hid (∀ o n, StrsAt c4 d.b ((w.alloc o).drewN n)) := q4
  have HR : Hid (rb d = capI (128 + sb d.v + sb d.g + sb d.r + sb d.n + sb d.b)) := rfl
  obtain ⟨a0, a1, -⟩ := sb_le d.v
  obtain ⟨b0, b1, -⟩ := sb_le d.g
  obtain ⟨x0, x1, -⟩ := sb_le d.r
  obtain ⟨d0, d1, -⟩ := sb_le d.n
  obtain ⟨e0, e1, -⟩ := sb_le d.b
  clear q0 q1 q2 q3 q4 h
  go_enter Try.func9, Try.ntmps9
  go_wp2_with fail
  go_quiet (first
    | (go_at_call 36; first | exact Calls.quiet_of_same (strsB_any (Q0.out _ _)) | exact Calls.quiet_of_same (strsB_any (Q1.out _ _)) | exact Calls.quiet_of_same (strsB_any (Q2.out _ _)) | exact Calls.quiet_of_same (strsB_any (Q3.out _ _)) | exact Calls.quiet_of_same (strsB_any (Q4.out _ _)))
    | (go_at_call 40; exact Calls.quiet_of_same (capB_any _ _ (by omega) (by omega))))
  go_wp2
  go_ret
  exact ⟨by rw [HR.out]; rfl, below_box _ _ _⟩

def RBel (p : Int → Prop) (w : World) (e : Ending) (w' : World) : Prop := ∃ r : Int, e = .returned (.int .i64 r) ∧ Below w.heap.size w w' ∧ p r

theorem size25 : (Try.prog.info? 25).map (·.size) = some 6 := by kernel_rfl
theorem size34 : (Try.prog.info? 34).map (·.size) = some 6 := by kernel_rfl

set_option maxRecDepth 100000 in
set_option maxHeartbeats 2000000 in
theorem rulesBytes_any {rs : Value} {ds : List Rd} {w : World} (h : RulesAt rs ds w) :
    Calls Try.prog 8 #[rs] w fun en w' => RBel (fun r => 0 ≤ r ∧ r ≤ 2097153 ∧ (r ≤ 1048576 → ds.length ≤ 8192 ∧ ∀ (i : Nat) d, ds[i]? = some d → Ok d)) w en w' := by
  obtain ⟨ao, cap, rfl, h2, h3, h4, h5⟩ := h
  obtain ⟨n, hn⟩ : ∃ n, ds.length = n := ⟨_, rfl⟩
  have H5 : Hid (∀ (i : Nat) d, ds[i]? = some d → ∃ b o e, ao = some ⟨b, o, none⟩ ∧ w.rangeAt b (o + i * 6) (El.cells e) ∧ RuleV e d w) := h5
  have HN : Hid (ds.length = n) := hn
  rw [hn] at h2 ⊢
  clear hn h5 h4
  unfold maxLen at h3
  by_cases hl : n ≤ 1048576
  · go_enter Try.func8, Try.ntmps8
    go_wp2
    go_loopw [3, 4] (fun q i wr => ∃ (k : Nat) (m : Int), k ≤ n ∧ i = .int .i64 k ∧ q = .int .i64 m ∧ 128 * (k : Int) ≤ m ∧ m ≤ 1048576 ∧ Hid (∀ (i : Nat) d, i < k → ds[i]? = some d → Ok d) ∧ Below w.heap.size w wr) (fun _ i _ => n - (intOf i).toNat)
    case atStart => exact ⟨0, _, Nat.zero_le _, rfl, rfl, by omega, by omega, fun i d hi => absurd hi (Nat.not_lt_zero i), Below.refl _ _⟩
    case round =>
      obtain ⟨k, m, hk, rfl, rfl, hm0, hm1, HS, hb⟩ := hrel
      by_cases hkn : k < n
      · obtain ⟨d, hd⟩ : ∃ d, ds[k]? = some d := ⟨ds[k]'(by have := HN.out; omega), List.getElem?_eq_getElem _⟩
        obtain ⟨b, o, e, rfl, hr, hv⟩ := H5.out k d hd
        have hr' := rangeAt_below hr hb
        have R := ruleBytes_any (hv.below hb)
        obtain ⟨z0, z1, z2⟩ := rb_le d
        have HD : Hid (ds[k]? = some d) := hd
        have HZ : Hid (rb d ≤ 1048576 → Ok d) := z2
        clear hr hv hd z2
        obtain ⟨x, hx⟩ : ∃ x, rb d = x := ⟨_, rfl⟩
        rw [hx] at R z0 z1 HZ
        clear hx
        obtain ⟨c0, c1, c2, c3, c4, an⟩ := e
        obtain ⟨e0, e1, e2, e3, e4, e5⟩ := range6 hr'
        go_wp2_with (first
          | (go_at_call 9; refine R.mono ?_; rintro en w2 ⟨rfl, hb2⟩))
        all_goals first
          | (go_ret; exact ⟨_, rfl, hb.trans (hb2.mono hb.size), by omega, by omega, fun h => absurd h (by decide)⟩)
          | (go_roundw
             case rel =>
               refine ⟨k + 1, _, by omega, by go_num, rfl, by omega, by omega, fun i d' hi hd' => ?_, hb.trans (hb2.mono hb.size)⟩
               by_cases e : i = k
               · subst e
                 have := HD.out.symm.trans hd'
                 cases this
                 exact HZ.out (by omega)
               · exact HS.out i d' (by omega) hd'
             case measure => simp [intOf]; omega)
      · go_wp2
        go_ret
        refine ⟨_, rfl, hb, by omega, by omega, fun _ => ⟨by omega, fun i d hd => HS.out i d ?_ hd⟩⟩
        have := (List.getElem?_eq_some_iff.1 hd).1
        have := HN.out
        omega
  · go_enter Try.func8, Try.ntmps8
    go_wp2
    go_ret
    exact ⟨_, rfl, Below.refl _ _, by omega, by omega, fun h => absurd h (by decide)⟩

/-- How many triples, capped. -/
def trip (d : Rd) : Int := mcI (mcI d.v.length d.g.length) d.r.length

theorem StrsAt.len {ns : Value} {ss : List ByteArray} {w : World} (h : StrsAt ns ss w) : ∃ ao cap, ns = .slice ao ss.length cap := by
  obtain ⟨ao, cap, e, _⟩ := StrsAt.uni h
  exact ⟨ao, cap, e⟩

set_option maxRecDepth 100000 in
set_option maxHeartbeats 2000000 in
theorem triples_any {e : El} {d : Rd} {w : World} (h : RuleV e d w) (hok : Ok d) :
    Calls Try.prog 16 #[.agg #[e.c0, e.c1, e.c2, e.c3, e.c4, .bool e.an]] w fun en w' => en = .returned (.int .i64 (trip d)) ∧ Below w.heap.size w w' := by
  obtain ⟨c0, c1, c2, c3, c4, an⟩ := e
  obtain ⟨o0, k0, x0⟩ := StrsAt.len h.s0
  obtain ⟨o1, k1, x1⟩ := StrsAt.len h.s1
  obtain ⟨o2, k2, x2⟩ := StrsAt.len h.s2
  simp only at x0 x1 x2
  subst x0 x1 x2
  clear h
  have y0 := hok.v.1
  have y1 := hok.g.1
  have y2 := hok.r.1
  clear hok
  have HT : Hid (trip d = mcI (mcI d.v.length d.g.length) d.r.length) := rfl
  generalize d.v.length = a at *
  generalize d.g.length = b at *
  generalize d.r.length = c at *
  have m1 := mcI_ge (a := a) (b := b) (by omega) (by omega)
  go_enter Try.func16, Try.ntmps16
  go_wp2_with fail
  go_quiet (first
    | (go_at_call 42; exact Calls.quiet_of_same (mulCapI_any _ _ _ (by omega) (by omega) (by omega) (by omega))))
  go_wp2
  go_ret
  exact ⟨by rw [HT.out]; rfl, below_box _ _ _⟩
end Go.Proofs.Qxb6606073a.W
