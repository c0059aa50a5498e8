import Derived.Test.Qxb6606073aRu
namespace Go.Proofs.Qxb6606073a.W
open Go.RowKit
set_option linter.unusedVariables false
set_option linter.unusedSimpArgs false

theorem Stt.cells {base : Nat} {d : Rd} {c0 c1 c2 c3 c4 : Value} {an : Bool} {es0 : List El} {w0 : World} {h : Nat} {out : Value} {ts : List El} {w : World} (s : Stt base d ⟨c0, c1, c2, c3, c4, an⟩ es0 w0 h out ts w) :
    w.cell? ⟨h, 0, none⟩ = some c0 ∧ w.cell? ⟨h, 1, none⟩ = some c1 ∧ w.cell? ⟨h, 2, none⟩ = some c2 ∧ w.cell? ⟨h, 3, none⟩ = some c3 ∧ w.cell? ⟨h, 4, none⟩ = some c4 ∧ w.cell? ⟨h, 5, none⟩ = some (.bool an) ∧ w.cell? ⟨h + 1, 0, none⟩ = some (.slice none 0 0) ∧ h < w.heap.size ∧ h + 1 < w.heap.size :=
  ⟨heap_cell s.box 0, heap_cell s.box 1, heap_cell s.box 2, heap_cell s.box 3, heap_cell s.box 4, heap_cell s.box 5, heap_cell s.sc 0, (Array.getElem?_eq_some_iff.1 s.box).1, (Array.getElem?_eq_some_iff.1 s.sc).1⟩

theorem Stt.start {base : Nat} {d : Rd} {e : El} {es0 : List El} {out0 : Value} {w : World} (hO : w.ownsRow base 34 6 out0 es0.length (flat es0)) (hE : OwnE e d w) (hb : base ≤ w.heap.size) :
    Stt base d e es0 w w.heap.size out0 [] ((w.alloc (.cells #[e.c0, e.c1, e.c2, e.c3, e.c4, .bool e.an] 34)).alloc (.cells #[.slice none 0 0] 63)) := by
  have b := below_two w (.cells #[e.c0, e.c1, e.c2, e.c3, e.c4, .bool e.an] 34) (.cells #[.slice none 0 0] 63)
  have k : Keep 34 w _ := Keep.of b
  refine ⟨?_, fun e1 => ?_, ?_, ?_, k, b.mono hb, hE.keep k (by decide), fun p x hx => by simp at hx, hb⟩
  · rw [List.append_nil]; exact (hO.alloc _).alloc _
  · have := (hO.lt _ e1).2
    omega
  · show (((w.heap.push _).push _))[w.heap.size]? = _
    rw [Array.getElem?_push, if_neg (by simp)]
    simp
  · show (((w.heap.push _).push _))[w.heap.size + 1]? = _
    rw [Array.getElem?_push, if_pos (by simp)]

theorem heap_alloc_at (w : World) (o : Obj) : (w.alloc o).heap[w.heap.size]? = some o := Go.heap_alloc_new w o
theorem below_alloc (w : World) (o : Obj) : Below w.heap.size w (w.alloc o) := (Below.refl _ _).alloc (Nat.le_refl _) _
theorem heap_below {w w' : World} {g : Nat} {o : Obj} (h : w.heap[g]? = some o) (hb : Below w.heap.size w w') : w'.heap[g]? = some o := (hb.block g (Array.getElem?_eq_some_iff.1 h).1).trans h

theorem hold43 {p : Prop} (h : Hid p) : p := h

def Done43 (base : Nat) (d : Rd) (e : El) (es0 : List El) (w : World) (en : Ending) (w' : World) : Prop :=
  ∃ out ts h, en = .returned out ∧ ts.length = d.v.length * d.g.length * d.r.length ∧ Stt base d e es0 w h out ts w'

theorem one_str (s : ByteArray) : ∀ u ∈ [Value.string s], u.oneCell' = true := fun u hu => by simp at hu; subst hu; rfl

set_option maxRecDepth 100000 in
set_option maxHeartbeats 4000000 in
theorem append_any {base : Nat} {d : Rd} {e : El} {es0 : List El} {out0 : Value} {w : World} (hO : w.ownsRow base 34 6 out0 es0.length (flat es0)) (hE : OwnE e d w) (hok : Ok d) (hb : base ≤ w.heap.size)
    (hl : es0.length ≤ 8192) (hm : d.v.length * d.g.length * d.r.length ≤ 67108864) :
    Calls Try.prog 43 #[out0, .agg #[e.c0, e.c1, e.c2, e.c3, e.c4, .bool e.an], .slice none 0 0] w fun en w' => Done43 base d e es0 w en w' := by
  have S0 := Stt.start hO hE hb
  obtain ⟨c0, c1, c2, c3, c4, an⟩ := e
  obtain ⟨a0, k0, x0⟩ := StrsAt.len hE.s0.str
  obtain ⟨a1, k1, x1⟩ := StrsAt.len hE.s1.str
  obtain ⟨a2, k2, x2⟩ := StrsAt.len hE.s2.str
  obtain ⟨a3, k3, x3⟩ := StrsAt.len hE.s3.str
  obtain ⟨a4, k4, x4⟩ := StrsAt.len hE.s4.str
  simp only at x0 x1 x2 x3 x4
  have y0 := hok.v.1
  have y1 := hok.g.1
  have y2 := hok.r.1
  have y3 := hok.n.1
  have HK : Hid (Ok d) := hok
  obtain ⟨V, hV⟩ : ∃ n, d.v.length = n := ⟨_, rfl⟩
  obtain ⟨G, hG⟩ : ∃ n, d.g.length = n := ⟨_, rfl⟩
  obtain ⟨R, hR⟩ : ∃ n, d.r.length = n := ⟨_, rfl⟩
  obtain ⟨N, hN⟩ : ∃ n, d.n.length = n := ⟨_, rfl⟩
  rw [hV] at x0 y0
  rw [hG] at x1 y1
  rw [hR] at x2 y2
  rw [hN] at x3 y3
  have HM : Hid (V * G * R ≤ 67108864) := by
    show _ ≤ _
    rw [← hV, ← hG, ← hR]; exact hm
  have HV : Hid (d.v.length = V) := hV
  have HG : Hid (d.g.length = G) := hG
  have HR : Hid (d.r.length = R) := hR
  have HN : Hid (d.n.length = N) := hN
  subst x0 x1 x2 x3 x4
  have HP : Hid (∀ out ts h w', ts.length = V * G * R → Stt base d ⟨.slice a0 V k0, .slice a1 G k1, .slice a2 R k2, .slice a3 N k3, .slice a4 d.b.length k4, an⟩ es0 w h out ts w' → Done43 base d ⟨.slice a0 V k0, .slice a1 G k1, .slice a2 R k2, .slice a3 N k3, .slice a4 d.b.length k4, an⟩ es0 w (.returned out) w') := fun out ts h w' h1 h2 => ⟨out, ts, h, rfl, by rw [hV, hG, hR]; exact h1, h2⟩
  clear hO hE hok hm hV hG hR hN
  generalize d.b.length = L4 at *
  obtain ⟨b0, b1, b2, b3, b4, b5, b6, b7, b8⟩ := S0.cells
  go_enter Try.func43, Try.ntmps43
  go_wp2_with fail
  clear b0 b1 b2 b3 b4 b5 b6 b7 b8
  generalize (w.alloc (.cells #[.slice a0 V k0, .slice a1 G k1, .slice a2 R k2, .slice a3 N k3, .slice a4 L4 k4, .bool an] 34)).alloc (.cells #[.slice none 0 0] 63) = W0 at S0 ⊢
  obtain ⟨h, hh⟩ : ∃ h, w.heap.size = h := ⟨_, rfl⟩
  rw [hh] at S0 ⊢
  go_loopw [0, 21] (fun o i wr => ∃ (k : Nat) (ts : List El), k ≤ V ∧ i = .int .i64 k ∧ Hid (ts.length = k * G * R) ∧ Stt base d ⟨.slice a0 V k0, .slice a1 G k1, .slice a2 R k2, .slice a3 N k3, .slice a4 L4 k4, an⟩ es0 w h o ts wr) (fun _ i _ => V - (intOf i).toNat)
  case atStart => exact ⟨0, [], Nat.zero_le _, rfl, show _ = _ by simp, S0⟩
  case round =>
    obtain ⟨i, ts, hi, rfl, HL, S⟩ := hrel
    by_cases hiV : i < V
    · obtain ⟨g0, rfl, hv⟩ := S.rule.s0.cell (i := i) (by rw [HV.out]; exact hiV)
      have hvz := S.rule.s0.sizes i (by rw [HV.out]; exact hiV)
      obtain ⟨v, hve⟩ : ∃ v, d.v.getD i ByteArray.empty = v := ⟨_, rfl⟩
      have HVE : Hid (d.v.getD i ByteArray.empty = v) := hve
      rw [hve] at hv hvz
      clear hve
      have HVZ : Hid (v.size ≤ maxLen) := hvz
      clear hvz
      obtain ⟨b0, b1, b2, b3, b4, b5, b6, b7, b8⟩ := S.cells
      have S1 := S.below (below_alloc wr (.cells #[.string v] 9))
      have hvb := heap_alloc_at wr (.cells #[.string v] 9)
      go_wp2_with fail
      clear b0 b1 b2 b3 b4 b5 b6 b7 b8 S hv
      generalize wr.alloc (.cells #[.string v] 9) = W1 at S1 hvb ⊢
      obtain ⟨vb, hvbe⟩ : ∃ vb, wr.heap.size = vb := ⟨_, rfl⟩
      rw [hvbe] at hvb ⊢
      clear hvbe
      have HB1 : Hid (W1.heap[vb]? = some (.cells #[.string v] 9 (0, 0))) := hvb
      clear hvb
      go_loopw [0, 28] (fun o j wr => ∃ (k : Nat) (ts : List El), k ≤ G ∧ j = .int .i64 k ∧ Hid (ts.length = (i * G + k) * R) ∧ Hid (wr.heap[vb]? = some (.cells #[.string v] 9 (0, 0))) ∧ Stt base d ⟨.slice (some ⟨g0, 0, none⟩) V k0, .slice a1 G k1, .slice a2 R k2, .slice a3 N k3, .slice a4 L4 k4, an⟩ es0 w h o ts wr) (fun _ i _ => G - (intOf i).toNat)
      case atStart => exact ⟨0, ts, Nat.zero_le _, rfl, HL, HB1, S1⟩
      case round =>
        clear S1 HB1 HL
        obtain ⟨j, ts, hj, rfl, HL, HB1, S⟩ := hrel
        by_cases hjG : j < G
        · obtain ⟨g1, rfl, hv⟩ := S.rule.s1.cell (i := j) (by rw [HG.out]; exact hjG)
          have hvz := S.rule.s1.sizes j (by rw [HG.out]; exact hjG)
          obtain ⟨u, hve⟩ : ∃ u, d.g.getD j ByteArray.empty = u := ⟨_, rfl⟩
          have HUE : Hid (d.g.getD j ByteArray.empty = u) := hve
          rw [hve] at hv hvz
          clear hve
          have HUZ : Hid (u.size ≤ maxLen) := hvz
          clear hvz
          obtain ⟨b0, b1, b2, b3, b4, b5, b6, b7, b8⟩ := S.cells
          have S1 := S.below (below_alloc wr (.cells #[.string u] 9))
          have hvb := heap_alloc_at wr (.cells #[.string u] 9)
          have hva := heap_below HB1.out (below_alloc wr (.cells #[.string u] 9))
          go_wp2_with fail
          clear b0 b1 b2 b3 b4 b5 b6 b7 b8 S hv
          generalize wr.alloc (.cells #[.string u] 9) = W2 at S1 hvb hva ⊢
          obtain ⟨gb, hvbe⟩ : ∃ gb, wr.heap.size = gb := ⟨_, rfl⟩
          rw [hvbe] at hvb ⊢
          clear hvbe HB1
          have HB1 : Hid (W2.heap[vb]? = some (.cells #[.string v] 9 (0, 0))) := hva
          have HB2 : Hid (W2.heap[gb]? = some (.cells #[.string u] 9 (0, 0))) := hvb
          clear hvb hva
          go_loopw [0, 35] (fun o l wr => ∃ (k : Nat) (ts : List El), k ≤ R ∧ l = .int .i64 k ∧ Hid (ts.length = (i * G + j) * R + k) ∧ Hid (wr.heap[vb]? = some (.cells #[.string v] 9 (0, 0))) ∧ Hid (wr.heap[gb]? = some (.cells #[.string u] 9 (0, 0))) ∧ Stt base d ⟨.slice (some ⟨g0, 0, none⟩) V k0, .slice (some ⟨g1, 0, none⟩) G k1, .slice a2 R k2, .slice a3 N k3, .slice a4 L4 k4, an⟩ es0 w h o ts wr) (fun _ i _ => R - (intOf i).toNat)
          case atStart => exact ⟨0, ts, Nat.zero_le _, rfl, HL, HB1, HB2, S1⟩
          case round =>
            clear S1 HB1 HB2 HL
            obtain ⟨l, ts, hl2, rfl, HL, HB1, HB2, S⟩ := hrel
            by_cases hlR : l < R
            · obtain ⟨g2, rfl, hv⟩ := S.rule.s2.cell (i := l) (by rw [HR.out]; exact hlR)
              have hvz := S.rule.s2.sizes l (by rw [HR.out]; exact hlR)
              have hvk : (d.r.getD l ByteArray.empty).size ≤ 1048576 := by
                have hll : l < d.r.length := by rw [HR.out]; exact hlR
                have e1 : d.r.getD l ByteArray.empty = d.r[l] := by simp [List.getD, hll]
                rw [e1]
                exact HK.out.r.2 _ (List.getElem_mem hll)
              obtain ⟨x, hve⟩ : ∃ x, d.r.getD l ByteArray.empty = x := ⟨_, rfl⟩
              have HXE : Hid (d.r.getD l ByteArray.empty = x) := hve
              rw [hve] at hv hvz hvk
              clear hve
              have HXZ : Hid (x.size ≤ maxLen) := hvz
              have HXK : Hid (x.size ≤ 1048576) := hvk
              clear hvz hvk
              obtain ⟨b0, b1, b2, b3, b4, b5, b6, b7, b8⟩ := S.cells
              have S1 := S.below (below_alloc wr (.cells #[.string x, .bool an] 83))
              have hrb := heap_alloc_at wr (.cells #[.string x, .bool an] 83)
              have hva := heap_below HB1.out (below_alloc wr (.cells #[.string x, .bool an] 83))
              have hga := heap_below HB2.out (below_alloc wr (.cells #[.string x, .bool an] 83))
              go_wp2_with fail
              clear b0 b1 b2 b3 b4 b5 b6 b7 b8 S hv
              generalize wr.alloc (.cells #[.string x, .bool an] 83) = W3 at S1 hrb hva hga ⊢
              obtain ⟨rb, hrbe⟩ : ∃ rb, wr.heap.size = rb := ⟨_, rfl⟩
              rw [hrbe] at hrb ⊢
              clear hrbe HB1 HB2
              have HB1 : Hid (W3.heap[vb]? = some (.cells #[.string v] 9 (0, 0))) := hva
              have HB2 : Hid (W3.heap[gb]? = some (.cells #[.string u] 9 (0, 0))) := hga
              have HB3 : Hid (W3.heap[rb]? = some (.cells #[.string x, .bool an] 83 (0, 0))) := hrb
              clear hva hga hrb
              go_loopw [15, 47] (fun nm q wr => ∃ k : Nat, k ≤ N ∧ q = .int .i64 k ∧ Hid (wr.ownsRow W3.heap.size 9 1 nm k (strs (d.n.take k))) ∧ Hid (nm = .slice none 0 0 ↔ k = 0) ∧ Below W3.heap.size W3 wr) (fun _ i _ => N - (intOf i).toNat)
              case atStart => exact ⟨0, Nat.zero_le _, rfl, World.ownsRow_nil _ _ _ _, ⟨fun _ => rfl, fun _ => rfl⟩, Below.refl _ _⟩
              case round =>
                obtain ⟨q, hq, rfl, HO, HNI, hbr⟩ := hrel
                have S2 := S1.below hbr
                have z1 := heap_below HB1.out hbr
                have z2 := heap_below HB2.out hbr
                have z3 := heap_below HB3.out hbr
                have t1 : wr.cell? ⟨vb, 0, none⟩ = some (.string v) := heap_cell z1 0
                have t2 : wr.cell? ⟨gb, 0, none⟩ = some (.string u) := heap_cell z2 0
                have t3 : wr.cell? ⟨rb, 0, none⟩ = some (.string x) := heap_cell z3 0
                have t4 : wr.cell? ⟨rb, 1, none⟩ = some (.bool an) := heap_cell z3 1
                have Z1 : Hid (wr.heap[vb]? = some (.cells #[.string v] 9 (0, 0))) := z1
                have Z2 : Hid (wr.heap[gb]? = some (.cells #[.string u] 9 (0, 0))) := z2
                clear z1 z2 z3
                obtain ⟨b0, b1, b2, b3, b4, b5, b6, b7, b8⟩ := S2.cells
                by_cases hqN : q < N
                · obtain ⟨g3, rfl, hv⟩ := S2.rule.s3.cell (i := q) (by rw [HN.out]; exact hqN)
                  have HYT := strs_take (ss := d.n) (k := q) (by rw [HN.out]; exact hqN)
                  obtain ⟨y, hye⟩ : ∃ y, d.n.getD q ByteArray.empty = y := ⟨_, rfl⟩
                  rw [hye] at hv HYT
                  have HY : Hid (strs (d.n.take (q + 1)) = strs (d.n.take q) ++ [.string y]) := HYT
                  clear hye HYT
                  have C := covered_nil b6 t1 t2 t3 t4 y true HXK.out
                  go_wp2_with fail
                  go_at_call 51
                  refine C.mono ?_
                  rintro en w2 ⟨rfl, hb2⟩
                  clear C
                  have HO2 : Hid (w2.ownsRow W3.heap.size 9 1 _ q (strs (d.n.take q))) := own_bel HO.out hb2
                  have hsz : W3.heap.size ≤ w2.heap.size := Nat.le_trans hbr.size hb2.size
                  clear b0 b1 b2 b3 b4 b5 b6 b7 b8 t1 t2 t3 t4
                  obtain ⟨i9, hi9, hz0, hz1, hz2⟩ := info_parts info9
                  go_wp2_with (at_builtin; refine wpList_append_own _ rfl _ _ 23 rfl W3.heap.size 9 i9 (.string ⟨#[]⟩) 1 16 Try.underlying23 hi9 hz0 hz1 hz2 rfl (by decide) _ q _ rfl (HO2.out.alloc _) ⟨w2.heap.size, 0, none⟩ 1 1 [.string y] rfl rfl (cell_one_new _ _ _) (one_str _) (by unfold maxLen; omega) (by omega) (Nat.le_trans hsz (by simp)) ?_
                               intro nm' w4 hown' hgrow hnil)
                  go_roundw
                  case rel =>
                    refine ⟨q + 1, by omega, by go_num, ?_, ⟨fun e => absurd (hnil.1 e).2 (by decide), fun e => absurd e (by omega)⟩, ?_⟩
                    · show World.ownsRow _ _ _ _ _ _ _
                      rw [HY.out]; exact hown'
                    · have c1 := hbr.trans (hb2.mono hbr.size)
                      have c2 := c1.alloc hsz (.cells #[.string y] 9)
                      exact c2.grown hgrow c2.size (fun k hk => (HO2.out.lt k hk).1)
                  case measure => simp [intOf]; omega
                · obtain rfl : q = N := by omega
                  have hNM : OwnS _ d.n wr := OwnS.of_owns (ss := d.n) (n := q) (by have e := HO.out; rwa [List.take_of_length_le (by rw [HN.out]; exact Nat.le_refl _)] at e) (by rcases S2.rule.s3 with ⟨_, e⟩ | ⟨_, _, _, _, _, _, _, _, e⟩; (· rw [e]; intro s hs; cases hs); exact e) HN.out.symm
                  rcases HO.out.2 with ⟨hn1, hn2⟩ | ⟨gn, cn, cur, hn1, -, -, -, -, -, -⟩
                  · subst hn1
                    have HNM : Hid (OwnS (.slice none 0 0) d.n wr) := hNM
                    have HNil : Hid (d.n = []) := List.eq_nil_of_length_eq_zero (HN.out.trans hn2)
                    subst hn2
                    clear hNM HO HNI
                    have C := covered_nil b6 t1 t2 t3 t4 ⟨#[]⟩ false HXK.out
                    go_wp2_with fail
                    go_at_call 51
                    refine C.mono ?_
                    rintro en w5 ⟨rfl, hb5⟩
                    clear C
                    have S5 := S2.below hb5
                    have z1 := heap_below Z1.out hb5
                    have z2 := heap_below Z2.out hb5
                    have HNM5 : Hid (OwnS (.slice none 0 0) d.n w5) := HNM.out.below hb5
                    clear b0 b1 b2 b3 b4 b5 b6 b7 b8 t1 t2 t3 t4 HNM
                    obtain ⟨b0, b1, b2, b3, b4, b5, b6, b7, b8⟩ := S5.cells
                    have t1 : w5.cell? ⟨vb, 0, none⟩ = some (.string v) := heap_cell z1 0
                    have t2 : w5.cell? ⟨gb, 0, none⟩ = some (.string u) := heap_cell z2 0
                    have l1 := (Array.getElem?_eq_some_iff.1 z1).1
                    have l2 := (Array.getElem?_eq_some_iff.1 z2).1
                    have l3 : gb < w5.heap.size + 1 := by omega
                    have l4 : h < w5.heap.size + 1 := by omega
                    have l5 : h < w5.heap.size + 1 + 1 := by omega
                    have l6 : h < w5.heap.size + 1 + 1 + 1 := by omega
                    have HSW : Hid (Stt base d ⟨.slice (some ⟨g0, 0, none⟩) V k0, .slice (some ⟨g1, 0, none⟩) G k1, .slice (some ⟨g2, 0, none⟩) R k2, .slice a3 0 k3, .slice a4 L4 k4, an⟩ es0 w h _ ts (xW w5 v u x (.slice none 0 0) (.slice a4 L4 k4) an)) := S5.below (below_four w5 (.cells #[.string v] 9) (.cells #[.string u] 9) (.cells #[.string x] 9) (.cells #[.slice (some ⟨w5.heap.size, 0, none⟩) 1 1, .slice (some ⟨w5.heap.size + 1, 0, none⟩) 1 1, .slice (some ⟨w5.heap.size + 1 + 1, 0, none⟩) 1 1, .slice none 0 0, .slice a4 L4 k4, .bool an] 34))
                    have HTT : Hid (TripOk d ⟨.slice (some ⟨g0, 0, none⟩) V k0, .slice (some ⟨g1, 0, none⟩) G k1, .slice (some ⟨g2, 0, none⟩) R k2, .slice a3 0 k3, .slice a4 L4 k4, an⟩ (xEl w5 (.slice none 0 0) (.slice a4 L4 k4) an) ts.length (xW w5 v u x (.slice none 0 0) (.slice a4 L4 k4) an)) := xTrip (d := d) (e := ⟨.slice (some ⟨g0, 0, none⟩) V k0, .slice (some ⟨g1, 0, none⟩) G k1, .slice (some ⟨g2, 0, none⟩) R k2, .slice a3 0 k3, .slice a4 L4 k4, an⟩) (i := i) (j := j) (l := l) (p := ts.length) (w := w5) (by rw [HG.out]; exact hjG) (by rw [HR.out]; exact hlR) (by rw [HL.out, HG.out, HR.out]) HVE.out HUE.out HXE.out HVZ.out HUZ.out HXZ.out HNM5.out ⟨fun _ => HNil.out, fun _ => rfl⟩
                    have Y1 : Hid ((xW w5 v u x (.slice none 0 0) (.slice a4 L4 k4) an).heap[vb]? = some (.cells #[.string v] 9 (0, 0))) := heap_below z1 (below_four _ _ _ _ _)
                    have Y2 : Hid ((xW w5 v u x (.slice none 0 0) (.slice a4 L4 k4) an).heap[gb]? = some (.cells #[.string u] 9 (0, 0))) := heap_below z2 (below_four _ _ _ _ _)
                    clear z1 z2
                    have hlen : (es0 ++ ts).length ≤ 67117056 := by
                      have e1 := idx_lt (V := V) (G := G) (R := R) hiV hjG hlR
                      have e2 := HM.out
                      have e3 := HL.out
                      rw [List.length_append]; omega
                    obtain ⟨n34, hn34⟩ : ∃ n, (es0 ++ ts).length = n := ⟨_, rfl⟩
                    have HOW : Hid ((xW w5 v u x (.slice none 0 0) (.slice a4 L4 k4) an).ownsRow base 34 6 u0 n34 (flat (es0 ++ ts))) := by rw [← hn34]; exact HSW.out.own
                    rw [hn34] at hlen
                    have HBB : Hid (base ≤ (xW w5 v u x (.slice none 0 0) (.slice a4 L4 k4) an).heap.size) := Nat.le_trans HSW.out.hb HSW.out.bel.size
                    have H34 : Hid ((es0 ++ ts).length = n34) := hn34
                    have q63 : n34 + 1 ≤ maxLen := by unfold maxLen; omega
                    have qby : (n34 + 1) * 128 ≤ 140737488355328 := by omega
                    have HXN : Hid (∀ (j : Nat) y, (xEl w5 (.slice none 0 0) (.slice a4 L4 k4) an).cells[j]? = some y → (xW w5 v u x (.slice none 0 0) (.slice a4 L4 k4) an).cell? ((⟨w5.heap.size + 1 + 1 + 1, 0, none⟩ : Addr).add j) = some y) := xNews _ _ _ _ _ _ _
                    clear hn34
                    obtain ⟨i34, hi34, hq0', hq1, hq2⟩ := info_parts info34
                    go_wp2_with (at_builtin; refine hold43 ?_)
                    unfold Hid
                    refine wpList_append_own_at _ rfl _ _ 31 rfl base 34 i34 _ 6 128 Try.underlying31 hi34 hq0' hq1 hq2 rfl (by decide) _ n34 (flat (es0 ++ ts)) rfl HOW.out ⟨w5.heap.size + 1 + 1 + 1, 0, none⟩ 1 1 (El.cells (xEl w5 (.slice none 0 0) (.slice a4 L4 k4) an)) rfl rfl HXN.out (xOne _ _ _ _ _ _ _ _) q63 qby HBB.out ?_
                    intro out' w6 hown' hgrow hnil hat
                    have HS6 : Hid (Stt base d ⟨.slice (some ⟨g0, 0, none⟩) V k0, .slice (some ⟨g1, 0, none⟩) G k1, .slice (some ⟨g2, 0, none⟩) R k2, .slice a3 0 k3, .slice a4 L4 k4, an⟩ es0 w h out' (ts ++ [xEl w5 (.slice none 0 0) (.slice a4 L4 k4) an]) w6) := Stt.append HSW.out (by rw [H34.out]; exact hown') hgrow hat HTT.out
                    have hkk := HSW.out.grownKeep hgrow
                    have V1 : Hid (w6.heap[vb]? = some (.cells #[.string v] 9 (0, 0))) := hkk _ _ 9 _ (by decide) Y1.out
                    have V2 : Hid (w6.heap[gb]? = some (.cells #[.string u] 9 (0, 0))) := hkk _ _ 9 _ (by decide) Y2.out
                    clear hkk hown' hgrow hnil hat b0 b1 b2 b3 b4 b5 b6 b7 b8 t1 t2 l1 l2 l3 l4 l5 l6 HSW HTT HOW HBB HXN Y1 Y2
                    go_wp2
                    go_roundw
                    case rel =>
                      refine ⟨l + 1, _, by omega, by go_num, ?_, V1, V2, HS6.out⟩
                      show _ = _
                      rw [List.length_append, HL.out, Nat.add_assoc]
                      rfl
                    case measure => simp [intOf]; omega
                  · subst hn1
                    have hq0 : 0 < q := by
                      have e := HNI.out
                      rcases Nat.eq_zero_or_pos q with e1 | e1
                      · exact absurd (e.2 e1) (by simp)
                      · exact e1
                    have HNM5 : Hid (OwnS (.slice (some ⟨gn, 0, none⟩) q cn) d.n wr) := hNM
                    have HNil : Hid (d.n ≠ []) := fun e => by
                      have e1 := HN.out
                      rw [e] at e1
                      simp at e1
                      omega
                    clear hNM HO HNI
                    have S5 := S2
                    have z1 := Z1.out
                    have z2 := Z2.out
                    clear b0 b1 b2 b3 b4 b5 b6 b7 b8 t1 t2 t3 t4
                    obtain ⟨b0, b1, b2, b3, b4, b5, b6, b7, b8⟩ := S5.cells
                    have t1 : wr.cell? ⟨vb, 0, none⟩ = some (.string v) := heap_cell z1 0
                    have t2 : wr.cell? ⟨gb, 0, none⟩ = some (.string u) := heap_cell z2 0
                    have l1 := (Array.getElem?_eq_some_iff.1 z1).1
                    have l2 := (Array.getElem?_eq_some_iff.1 z2).1
                    have l3 : gb < wr.heap.size + 1 := by omega
                    have l4 : h < wr.heap.size + 1 := by omega
                    have l5 : h < wr.heap.size + 1 + 1 := by omega
                    have l6 : h < wr.heap.size + 1 + 1 + 1 := by omega
                    have HSW : Hid (Stt base d ⟨.slice (some ⟨g0, 0, none⟩) V k0, .slice (some ⟨g1, 0, none⟩) G k1, .slice (some ⟨g2, 0, none⟩) R k2, .slice a3 q k3, .slice a4 L4 k4, an⟩ es0 w h _ ts (xW wr v u x (.slice (some ⟨gn, 0, none⟩) q cn) (.slice a4 L4 k4) an)) := S5.below (below_four wr (.cells #[.string v] 9) (.cells #[.string u] 9) (.cells #[.string x] 9) (.cells #[.slice (some ⟨wr.heap.size, 0, none⟩) 1 1, .slice (some ⟨wr.heap.size + 1, 0, none⟩) 1 1, .slice (some ⟨wr.heap.size + 1 + 1, 0, none⟩) 1 1, .slice (some ⟨gn, 0, none⟩) q cn, .slice a4 L4 k4, .bool an] 34))
                    have HTT : Hid (TripOk d ⟨.slice (some ⟨g0, 0, none⟩) V k0, .slice (some ⟨g1, 0, none⟩) G k1, .slice (some ⟨g2, 0, none⟩) R k2, .slice a3 q k3, .slice a4 L4 k4, an⟩ (xEl wr (.slice (some ⟨gn, 0, none⟩) q cn) (.slice a4 L4 k4) an) ts.length (xW wr v u x (.slice (some ⟨gn, 0, none⟩) q cn) (.slice a4 L4 k4) an)) := xTrip (d := d) (e := ⟨.slice (some ⟨g0, 0, none⟩) V k0, .slice (some ⟨g1, 0, none⟩) G k1, .slice (some ⟨g2, 0, none⟩) R k2, .slice a3 q k3, .slice a4 L4 k4, an⟩) (i := i) (j := j) (l := l) (p := ts.length) (w := wr) (by rw [HG.out]; exact hjG) (by rw [HR.out]; exact hlR) (by rw [HL.out, HG.out, HR.out]) HVE.out HUE.out HXE.out HVZ.out HUZ.out HXZ.out HNM5.out ⟨fun e => (by cases e), fun e => absurd e HNil.out⟩
                    have Y1 : Hid ((xW wr v u x (.slice (some ⟨gn, 0, none⟩) q cn) (.slice a4 L4 k4) an).heap[vb]? = some (.cells #[.string v] 9 (0, 0))) := heap_below z1 (below_four _ _ _ _ _)
                    have Y2 : Hid ((xW wr v u x (.slice (some ⟨gn, 0, none⟩) q cn) (.slice a4 L4 k4) an).heap[gb]? = some (.cells #[.string u] 9 (0, 0))) := heap_below z2 (below_four _ _ _ _ _)
                    clear z1 z2
                    have hlen : (es0 ++ ts).length ≤ 67117056 := by
                      have e1 := idx_lt (V := V) (G := G) (R := R) hiV hjG hlR
                      have e2 := HM.out
                      have e3 := HL.out
                      rw [List.length_append]; omega
                    obtain ⟨n34, hn34⟩ : ∃ n, (es0 ++ ts).length = n := ⟨_, rfl⟩
                    have HOW : Hid ((xW wr v u x (.slice (some ⟨gn, 0, none⟩) q cn) (.slice a4 L4 k4) an).ownsRow base 34 6 u0 n34 (flat (es0 ++ ts))) := by rw [← hn34]; exact HSW.out.own
                    rw [hn34] at hlen
                    have HBB : Hid (base ≤ (xW wr v u x (.slice (some ⟨gn, 0, none⟩) q cn) (.slice a4 L4 k4) an).heap.size) := Nat.le_trans HSW.out.hb HSW.out.bel.size
                    have H34 : Hid ((es0 ++ ts).length = n34) := hn34
                    have q63 : n34 + 1 ≤ maxLen := by unfold maxLen; omega
                    have qby : (n34 + 1) * 128 ≤ 140737488355328 := by omega
                    have HXN : Hid (∀ (j : Nat) y, (xEl wr (.slice (some ⟨gn, 0, none⟩) q cn) (.slice a4 L4 k4) an).cells[j]? = some y → (xW wr v u x (.slice (some ⟨gn, 0, none⟩) q cn) (.slice a4 L4 k4) an).cell? ((⟨wr.heap.size + 1 + 1 + 1, 0, none⟩ : Addr).add j) = some y) := xNews _ _ _ _ _ _ _
                    clear hn34
                    obtain ⟨i34, hi34, hq0', hq1, hq2⟩ := info_parts info34
                    go_wp2_with (at_builtin; refine hold43 ?_)
                    unfold Hid
                    refine wpList_append_own_at _ rfl _ _ 31 rfl base 34 i34 _ 6 128 Try.underlying31 hi34 hq0' hq1 hq2 rfl (by decide) _ n34 (flat (es0 ++ ts)) rfl HOW.out ⟨wr.heap.size + 1 + 1 + 1, 0, none⟩ 1 1 (El.cells (xEl wr (.slice (some ⟨gn, 0, none⟩) q cn) (.slice a4 L4 k4) an)) rfl rfl HXN.out (xOne _ _ _ _ _ _ _ _) q63 qby HBB.out ?_
                    intro out' w6 hown' hgrow hnil hat
                    have HS6 : Hid (Stt base d ⟨.slice (some ⟨g0, 0, none⟩) V k0, .slice (some ⟨g1, 0, none⟩) G k1, .slice (some ⟨g2, 0, none⟩) R k2, .slice a3 q k3, .slice a4 L4 k4, an⟩ es0 w h out' (ts ++ [xEl wr (.slice (some ⟨gn, 0, none⟩) q cn) (.slice a4 L4 k4) an]) w6) := Stt.append HSW.out (by rw [H34.out]; exact hown') hgrow hat HTT.out
                    have hkk := HSW.out.grownKeep hgrow
                    have V1 : Hid (w6.heap[vb]? = some (.cells #[.string v] 9 (0, 0))) := hkk _ _ 9 _ (by decide) Y1.out
                    have V2 : Hid (w6.heap[gb]? = some (.cells #[.string u] 9 (0, 0))) := hkk _ _ 9 _ (by decide) Y2.out
                    clear hkk hown' hgrow hnil hat b0 b1 b2 b3 b4 b5 b6 b7 b8 t1 t2 l1 l2 l3 l4 l5 l6 HSW HTT HOW HBB HXN Y1 Y2
                    go_wp2
                    go_roundw
                    case rel =>
                      refine ⟨l + 1, _, by omega, by go_num, ?_, V1, V2, HS6.out⟩
                      show _ = _
                      rw [List.length_append, HL.out, Nat.add_assoc]
                      rfl
                    case measure => simp [intOf]; omega
            · go_wp2
              go_roundw
              case rel =>
                obtain rfl : l = R := by omega
                refine ⟨j + 1, ts, by omega, by go_num, ?_, HB1, S⟩
                show _ = _
                rw [HL.out, ← Nat.add_assoc, Nat.add_mul (i * G + j) 1, Nat.one_mul]
              case measure => simp [intOf]; omega
        · go_wp2
          go_roundw
          case rel =>
            obtain rfl : j = G := by omega
            refine ⟨i + 1, ts, by omega, by go_num, ?_, S⟩
            show _ = _
            rw [HL.out, Nat.add_mul i 1, Nat.one_mul]
          case measure => simp [intOf]; omega
    · go_wp2
      go_ret
      obtain rfl : i = V := by omega
      exact HP.out _ ts h _ HL.out S
end Go.Proofs.Qxb6606073a.W
