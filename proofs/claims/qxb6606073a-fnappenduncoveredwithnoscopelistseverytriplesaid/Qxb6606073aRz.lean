import Derived.Test.Qxb6606073aRd
namespace Go.Proofs.Qxb6606073a.W
open Go.RowKit
set_option linter.unusedVariables false
set_option linter.unusedSimpArgs false

def StrZ (w : World) (ao : Option Addr) (n : Nat) : Prop := ∀ i, i < n → ∃ a s, ao = some a ∧ w.cell? (a.add i) = some (.string s) ∧ s.size ≤ 9223372036854775807

theorem StrsAt.z {ns : Value} {ss : List ByteArray} {w : World} (h : StrsAt ns ss w) : ∃ ao n cap, ns = .slice ao n cap ∧ n ≤ 9223372036854775807 ∧ StrZ w ao n := by
  obtain ⟨ao, cap, h1, h2, h3, h4, h5⟩ := StrsAt.uni h
  unfold maxLen at h3 h5
  refine ⟨ao, ss.length, cap, h1, by omega, fun i hi => ?_⟩
  obtain ⟨a, e1, e2⟩ := h4 i hi
  refine ⟨a, _, e1, e2, ?_⟩
  have : ss.getD i ByteArray.empty = ss[i] := by simp [List.getD, hi]
  rw [this]
  exact h5 _ (List.getElem_mem hi)

def RBB (w : World) (en : Ending) (w' : World) : Prop := ∃ b : Bool, en = .returned (.bool b) ∧ Below w.heap.size w w'
theorem RBB.mk {w w' : World} {en : Ending} (b : Bool) (h : en = .returned (.bool b)) (hb : Below w.heap.size w w') : RBB w en w' := ⟨b, h, hb⟩

set_option maxRecDepth 100000 in
set_option maxHeartbeats 8000000 in
theorem zz3_any {rs : Value} {ds : List Rd} {e : El} {d : Rd} {w : World} (h : RulesAt rs ds w) (hr : RuleV e d w) :
    Calls Try.prog 7 #[rs, .agg #[e.c0, e.c1, e.c2, e.c3, e.c4, .bool e.an]] w fun en w' => RBB w en w' := by
  obtain ⟨c0, c1, c2, c3, c4, an⟩ := e
  have hB := (Below.refl w.heap.size w).alloc (Nat.le_refl _) (.cells #[c0, c1, c2, c3, c4, .bool an] 25)
  have h' := h.below hB
  have hr' := hr.below hB
  have hbx : (w.alloc (.cells #[c0, c1, c2, c3, c4, .bool an] 25)).heap[w.heap.size]? = some (.cells #[c0, c1, c2, c3, c4, .bool an] 25 (0, 0)) := Go.heap_alloc_new _ _
  have e0 : (w.alloc (.cells #[c0, c1, c2, c3, c4, .bool an] 25)).cell? ⟨w.heap.size, 0, none⟩ = some c0 := by unfold World.cell?; rw [hbx]; rfl
  have e1 : (w.alloc (.cells #[c0, c1, c2, c3, c4, .bool an] 25)).cell? ⟨w.heap.size, 1, none⟩ = some c1 := by unfold World.cell?; rw [hbx]; rfl
  have e2 : (w.alloc (.cells #[c0, c1, c2, c3, c4, .bool an] 25)).cell? ⟨w.heap.size, 2, none⟩ = some c2 := by unfold World.cell?; rw [hbx]; rfl
  have e3 : (w.alloc (.cells #[c0, c1, c2, c3, c4, .bool an] 25)).cell? ⟨w.heap.size, 3, none⟩ = some c3 := by unfold World.cell?; rw [hbx]; rfl
  have e4 : (w.alloc (.cells #[c0, c1, c2, c3, c4, .bool an] 25)).cell? ⟨w.heap.size, 4, none⟩ = some c4 := by unfold World.cell?; rw [hbx]; rfl
  obtain ⟨A0, N0, K0, x0, z0, y0⟩ := StrsAt.z hr'.s0
  obtain ⟨A1, N1, K1, x1, z1, y1⟩ := StrsAt.z hr'.s1
  obtain ⟨A2, N2, K2, x2, z2, y2⟩ := StrsAt.z hr'.s2
  obtain ⟨A3, N3, K3, x3, z3, y3⟩ := StrsAt.z hr'.s3
  obtain ⟨A4, N4, K4, x4, z4, y4⟩ := StrsAt.z hr'.s4
  simp only at x0 x1 x2 x3 x4
  subst x0 x1 x2 x3 x4
  obtain ⟨ao, cap, rfl, h2, h3, h4, h5⟩ := h'
  obtain ⟨n, hn⟩ : ∃ n, ds.length = n := ⟨_, rfl⟩
  have HN : Hid (ds.length = n) := hn
  rw [hn] at h2 ⊢
  unfold maxLen at h3
  clear h hr hr' hbx hn h4
  have HB : Hid (Below w.heap.size w (w.alloc (.cells #[.slice A0 N0 K0, .slice A1 N1 K1, .slice A2 N2 K2, .slice A3 N3 K3, .slice A4 N4 K4, .bool an] 25))) := hB
  clear hB
  go_enter Try.func7, Try.ntmps7
  by_cases hn1 : n ≤ 1048576
  case neg =>
    go_wp2
    go_ret
    exact RBB.mk _ rfl HB.out
  go_wp2_with fail
  generalize w.alloc (.cells #[.slice A0 N0 K0, .slice A1 N1 K1, .slice A2 N2 K2, .slice A3 N3 K3, .slice A4 N4 K4, .bool an] 25) = W0 at HB e0 e1 e2 e3 e4 y0 y1 y2 y3 y4 h5 ⊢
  obtain ⟨hb, hhb⟩ : ∃ hb, w.heap.size = hb := ⟨_, rfl⟩
  rw [hhb] at e0 e1 e2 e3 e4 ⊢
  clear hhb
  have Y0 : Hid (StrZ W0 A0 N0) := y0
  have Y1 : Hid (StrZ W0 A1 N1) := y1
  have Y2 : Hid (StrZ W0 A2 N2) := y2
  have Y3 : Hid (StrZ W0 A3 N3) := y3
  have Y4 : Hid (StrZ W0 A4 N4) := y4
  have H5 : Hid (∀ (i : Nat) d, ds[i]? = some d → ∃ b o e, ao = some ⟨b, o, none⟩ ∧ W0.rangeAt b (o + i * 6) (El.cells e) ∧ RuleV e d W0) := h5
  clear y0 y1 y2 y3 y4 h5
  have E0 : Hid (W0.cell? ⟨hb, 0, none⟩ = some (.slice A0 N0 K0)) := e0
  have E1 : Hid (W0.cell? ⟨hb, 1, none⟩ = some (.slice A1 N1 K1)) := e1
  have E2 : Hid (W0.cell? ⟨hb, 2, none⟩ = some (.slice A2 N2 K2)) := e2
  have E3 : Hid (W0.cell? ⟨hb, 3, none⟩ = some (.slice A3 N3 K3)) := e3
  have E4 : Hid (W0.cell? ⟨hb, 4, none⟩ = some (.slice A4 N4 K4)) := e4
  clear e0 e1 e2 e3 e4
  go_loop [5, 6] (fun q i => ∃ (k : Nat) (m : Int), k ≤ n ∧ i = .int .i64 k ∧ q = .int .i64 m ∧ 0 ≤ m ∧ m ≤ 1048576) (fun _ i => n - (intOf i).toNat)
  case atStart => exact ⟨0, _, Nat.zero_le _, rfl, rfl, by omega, by omega⟩
  case round =>
    obtain ⟨t, m, ht, rfl, rfl, hm0, hm1⟩ := hrel
    by_cases htn : t < n
    · obtain ⟨d, hd⟩ : ∃ d, ds[t]? = some d := ⟨ds[t]'(by have := HN.out; omega), List.getElem?_eq_getElem _⟩
      obtain ⟨b, o, e, rfl, hrg, hv⟩ := H5.out t d hd
      obtain ⟨c0, c1, c2, c3, c4, an'⟩ := e
      obtain ⟨p0, p1, p2, p3, p4, -⟩ := range6 hrg
      obtain ⟨B0, M0, L0, x0, z0', y0⟩ := StrsAt.z hv.s0
      obtain ⟨B1, M1, L1, x1, z1', y1⟩ := StrsAt.z hv.s1
      obtain ⟨B2, M2, L2, x2, z2', y2⟩ := StrsAt.z hv.s2
      obtain ⟨B3, M3, L3, x3, z3', y3⟩ := StrsAt.z hv.s3
      obtain ⟨B4, M4, L4, x4, z4', y4⟩ := StrsAt.z hv.s4
      simp only at x0 x1 x2 x3 x4
      subst x0 x1 x2 x3 x4
      have X0 : Hid (StrZ W0 B0 M0) := y0
      have X1 : Hid (StrZ W0 B1 M1) := y1
      have X2 : Hid (StrZ W0 B2 M2) := y2
      have X3 : Hid (StrZ W0 B3 M3) := y3
      have X4 : Hid (StrZ W0 B4 M4) := y4
      simp only at p0 p1 p2 p3 p4
      have P0 : Hid (W0.cell? ⟨b, o + t * 6, none⟩ = some (.slice B0 M0 L0)) := p0
      have P1 : Hid (W0.cell? ⟨b, o + t * 6 + 1, none⟩ = some (.slice B1 M1 L1)) := p1
      have P2 : Hid (W0.cell? ⟨b, o + t * 6 + 2, none⟩ = some (.slice B2 M2 L2)) := p2
      have P3 : Hid (W0.cell? ⟨b, o + t * 6 + 3, none⟩ = some (.slice B3 M3 L3)) := p3
      have P4 : Hid (W0.cell? ⟨b, o + t * 6 + 4, none⟩ = some (.slice B4 M4 L4)) := p4
      clear y0 y1 y2 y3 y4 hd hrg hv p0 p1 p2 p3 p4 H5
      have pc := P0.out
      go_wp2
      all_goals first
        | (go_ret; exact RBB.mk _ rfl HB.out)
        | skip
      clear pc
      go_loop [5, 7] (fun q i => ∃ (k : Nat) (m : Int), k ≤ M0 ∧ i = .int .i64 k ∧ q = .int .i64 m ∧ 0 ≤ m ∧ m ≤ 1048576) (fun _ i => M0 - (intOf i).toNat)
      case atStart => exact ⟨0, _, Nat.zero_le _, rfl, rfl, by omega, by omega⟩
      case round =>
       as_aux_lemma =>
        clear hm0 hm1
        obtain ⟨k, m', hk, rfl, rfl, hm0, hm1⟩ := hrel
        have pc := P0.out
        by_cases hkn : k < M0
        · as_aux_lemma =>
          obtain ⟨a, s, rfl, hc, hz⟩ := X0.out k hkn
          go_wp2
          all_goals first
            | (go_ret; exact RBB.mk _ rfl HB.out)
            | (go_round
               case rel => exact ⟨k + 1, _, by omega, by go_num, rfl, by omega, by omega⟩
               case measure => simp [intOf]; omega)
        · have hkL : ¬ (k < M0) := hkn
          have pc2 := P1.out
          go_wp2
          all_goals first
            | (go_ret; exact RBB.mk _ rfl HB.out)
            | skip
          clear pc pc2
          go_loop [5, 8] (fun q i => ∃ (k : Nat) (m : Int), k ≤ M1 ∧ i = .int .i64 k ∧ q = .int .i64 m ∧ 0 ≤ m ∧ m ≤ 1048576) (fun _ i => M1 - (intOf i).toNat)
          case atStart => exact ⟨0, _, Nat.zero_le _, rfl, rfl, by omega, by omega⟩
          case round =>
           as_aux_lemma =>
            clear hm0 hm1
            obtain ⟨k, m', hk, rfl, rfl, hm0, hm1⟩ := hrel
            have pc := P1.out
            by_cases hkn : k < M1
            · as_aux_lemma =>
              obtain ⟨a, s, rfl, hc, hz⟩ := X1.out k hkn
              go_wp2
              all_goals first
                | (go_ret; exact RBB.mk _ rfl HB.out)
                | (go_round
                   case rel => exact ⟨k + 1, _, by omega, by go_num, rfl, by omega, by omega⟩
                   case measure => simp [intOf]; omega)
            · have hkL : ¬ (k < M1) := hkn
              have pc2 := P2.out
              go_wp2
              all_goals first
                | (go_ret; exact RBB.mk _ rfl HB.out)
                | skip
              clear pc pc2
              go_loop [5, 9] (fun q i => ∃ (k : Nat) (m : Int), k ≤ M2 ∧ i = .int .i64 k ∧ q = .int .i64 m ∧ 0 ≤ m ∧ m ≤ 1048576) (fun _ i => M2 - (intOf i).toNat)
              case atStart => exact ⟨0, _, Nat.zero_le _, rfl, rfl, by omega, by omega⟩
              case round =>
               as_aux_lemma =>
                clear hm0 hm1
                obtain ⟨k, m', hk, rfl, rfl, hm0, hm1⟩ := hrel
                have pc := P2.out
                by_cases hkn : k < M2
                · as_aux_lemma =>
                  obtain ⟨a, s, rfl, hc, hz⟩ := X2.out k hkn
                  go_wp2
                  all_goals first
                    | (go_ret; exact RBB.mk _ rfl HB.out)
                    | (go_round
                       case rel => exact ⟨k + 1, _, by omega, by go_num, rfl, by omega, by omega⟩
                       case measure => simp [intOf]; omega)
                · have hkL : ¬ (k < M2) := hkn
                  have pc2 := P3.out
                  go_wp2
                  all_goals first
                    | (go_ret; exact RBB.mk _ rfl HB.out)
                    | skip
                  clear pc pc2
                  go_loop [5, 10] (fun q i => ∃ (k : Nat) (m : Int), k ≤ M3 ∧ i = .int .i64 k ∧ q = .int .i64 m ∧ 0 ≤ m ∧ m ≤ 1048576) (fun _ i => M3 - (intOf i).toNat)
                  case atStart => exact ⟨0, _, Nat.zero_le _, rfl, rfl, by omega, by omega⟩
                  case round =>
                   as_aux_lemma =>
                    clear hm0 hm1
                    obtain ⟨k, m', hk, rfl, rfl, hm0, hm1⟩ := hrel
                    have pc := P3.out
                    by_cases hkn : k < M3
                    · as_aux_lemma =>
                      obtain ⟨a, s, rfl, hc, hz⟩ := X3.out k hkn
                      go_wp2
                      all_goals first
                        | (go_ret; exact RBB.mk _ rfl HB.out)
                        | (go_round
                           case rel => exact ⟨k + 1, _, by omega, by go_num, rfl, by omega, by omega⟩
                           case measure => simp [intOf]; omega)
                    · have hkL : ¬ (k < M3) := hkn
                      have pc2 := P4.out
                      go_wp2
                      all_goals first
                        | (go_ret; exact RBB.mk _ rfl HB.out)
                        | skip
                      clear pc pc2
                      go_loop [5, 11] (fun q i => ∃ (k : Nat) (m : Int), k ≤ M4 ∧ i = .int .i64 k ∧ q = .int .i64 m ∧ 0 ≤ m ∧ m ≤ 1048576) (fun _ i => M4 - (intOf i).toNat)
                      case atStart => exact ⟨0, _, Nat.zero_le _, rfl, rfl, by omega, by omega⟩
                      case round =>
                       as_aux_lemma =>
                        clear hm0 hm1
                        obtain ⟨k, m', hk, rfl, rfl, hm0, hm1⟩ := hrel
                        have pc := P4.out
                        by_cases hkn : k < M4
                        · as_aux_lemma =>
                          obtain ⟨a, s, rfl, hc, hz⟩ := X4.out k hkn
                          go_wp2
                          all_goals first
                            | (go_ret; exact RBB.mk _ rfl HB.out)
                            | (go_round
                               case rel => exact ⟨k + 1, _, by omega, by go_num, rfl, by omega, by omega⟩
                               case measure => simp [intOf]; omega)
                        · go_wp2
                          go_round
                          case rel => exact ⟨t + 1, _, by omega, by go_num, rfl, by omega, by omega⟩
                          case measure => simp [intOf]; omega
    · have pc := E0.out
      go_wp2
      all_goals first
        | (go_ret; exact RBB.mk _ rfl HB.out)
        | skip
      clear pc
      go_loop [5, 12] (fun q i => ∃ (k : Nat) (m : Int), k ≤ N0 ∧ i = .int .i64 k ∧ q = .int .i64 m ∧ 0 ≤ m ∧ m ≤ 1048576) (fun _ i => N0 - (intOf i).toNat)
      case atStart => exact ⟨0, _, Nat.zero_le _, rfl, rfl, by omega, by omega⟩
      case round =>
       as_aux_lemma =>
        clear hm0 hm1
        obtain ⟨k, m', hk, rfl, rfl, hm0, hm1⟩ := hrel
        have pc := E0.out
        by_cases hkn : k < N0
        · as_aux_lemma =>
          obtain ⟨a, s, rfl, hc, hz⟩ := Y0.out k hkn
          go_wp2
          all_goals first
            | (go_ret; exact RBB.mk _ rfl HB.out)
            | (go_round
               case rel => exact ⟨k + 1, _, by omega, by go_num, rfl, by omega, by omega⟩
               case measure => simp [intOf]; omega)
        · have hkL : ¬ (k < N0) := hkn
          have pc2 := E1.out
          go_wp2
          all_goals first
            | (go_ret; exact RBB.mk _ rfl HB.out)
            | skip
          clear pc pc2
          go_loop [5, 13] (fun q i => ∃ (k : Nat) (m : Int), k ≤ N1 ∧ i = .int .i64 k ∧ q = .int .i64 m ∧ 0 ≤ m ∧ m ≤ 1048576) (fun _ i => N1 - (intOf i).toNat)
          case atStart => exact ⟨0, _, Nat.zero_le _, rfl, rfl, by omega, by omega⟩
          case round =>
           as_aux_lemma =>
            clear hm0 hm1
            obtain ⟨k, m', hk, rfl, rfl, hm0, hm1⟩ := hrel
            have pc := E1.out
            by_cases hkn : k < N1
            · as_aux_lemma =>
              obtain ⟨a, s, rfl, hc, hz⟩ := Y1.out k hkn
              go_wp2
              all_goals first
                | (go_ret; exact RBB.mk _ rfl HB.out)
                | (go_round
                   case rel => exact ⟨k + 1, _, by omega, by go_num, rfl, by omega, by omega⟩
                   case measure => simp [intOf]; omega)
            · have hkL : ¬ (k < N1) := hkn
              have pc2 := E2.out
              go_wp2
              all_goals first
                | (go_ret; exact RBB.mk _ rfl HB.out)
                | skip
              clear pc pc2
              go_loop [5, 14] (fun q i => ∃ (k : Nat) (m : Int), k ≤ N2 ∧ i = .int .i64 k ∧ q = .int .i64 m ∧ 0 ≤ m ∧ m ≤ 1048576) (fun _ i => N2 - (intOf i).toNat)
              case atStart => exact ⟨0, _, Nat.zero_le _, rfl, rfl, by omega, by omega⟩
              case round =>
               as_aux_lemma =>
                clear hm0 hm1
                obtain ⟨k, m', hk, rfl, rfl, hm0, hm1⟩ := hrel
                have pc := E2.out
                by_cases hkn : k < N2
                · as_aux_lemma =>
                  obtain ⟨a, s, rfl, hc, hz⟩ := Y2.out k hkn
                  go_wp2
                  all_goals first
                    | (go_ret; exact RBB.mk _ rfl HB.out)
                    | (go_round
                       case rel => exact ⟨k + 1, _, by omega, by go_num, rfl, by omega, by omega⟩
                       case measure => simp [intOf]; omega)
                · have hkL : ¬ (k < N2) := hkn
                  have pc2 := E3.out
                  go_wp2
                  all_goals first
                    | (go_ret; exact RBB.mk _ rfl HB.out)
                    | skip
                  clear pc pc2
                  go_loop [5, 15] (fun q i => ∃ (k : Nat) (m : Int), k ≤ N3 ∧ i = .int .i64 k ∧ q = .int .i64 m ∧ 0 ≤ m ∧ m ≤ 1048576) (fun _ i => N3 - (intOf i).toNat)
                  case atStart => exact ⟨0, _, Nat.zero_le _, rfl, rfl, by omega, by omega⟩
                  case round =>
                   as_aux_lemma =>
                    clear hm0 hm1
                    obtain ⟨k, m', hk, rfl, rfl, hm0, hm1⟩ := hrel
                    have pc := E3.out
                    by_cases hkn : k < N3
                    · as_aux_lemma =>
                      obtain ⟨a, s, rfl, hc, hz⟩ := Y3.out k hkn
                      go_wp2
                      all_goals first
                        | (go_ret; exact RBB.mk _ rfl HB.out)
                        | (go_round
                           case rel => exact ⟨k + 1, _, by omega, by go_num, rfl, by omega, by omega⟩
                           case measure => simp [intOf]; omega)
                    · have hkL : ¬ (k < N3) := hkn
                      have pc2 := E4.out
                      go_wp2
                      all_goals first
                        | (go_ret; exact RBB.mk _ rfl HB.out)
                        | skip
                      clear pc pc2
                      go_loop [5, 16] (fun q i => ∃ (k : Nat) (m : Int), k ≤ N4 ∧ i = .int .i64 k ∧ q = .int .i64 m ∧ 0 ≤ m ∧ m ≤ 1048576) (fun _ i => N4 - (intOf i).toNat)
                      case atStart => exact ⟨0, _, Nat.zero_le _, rfl, rfl, by omega, by omega⟩
                      case round =>
                       as_aux_lemma =>
                        clear hm0 hm1
                        obtain ⟨k, m', hk, rfl, rfl, hm0, hm1⟩ := hrel
                        have pc := E4.out
                        by_cases hkn : k < N4
                        · as_aux_lemma =>
                          obtain ⟨a, s, rfl, hc, hz⟩ := Y4.out k hkn
                          go_wp2
                          all_goals first
                            | (go_ret; exact RBB.mk _ rfl HB.out)
                            | (go_round
                               case rel => exact ⟨k + 1, _, by omega, by go_num, rfl, by omega, by omega⟩
                               case measure => simp [intOf]; omega)
                        · go_wp2
                          go_ret
                          exact RBB.mk _ rfl HB.out
end Go.Proofs.Qxb6606073a.W
