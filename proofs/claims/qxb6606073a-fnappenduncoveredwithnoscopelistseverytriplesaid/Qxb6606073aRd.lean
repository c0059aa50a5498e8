import Derived.Test.Qxb6606073aBounds
import Derived.Deep.MidRow
namespace Go.Proofs.Qxb6606073a.W
open Go.RowKit
set_option linter.unusedVariables false
set_option linter.unusedSimpArgs false

/-- A rule, as it reads. -/
structure Rd where
  v : List ByteArray
  g : List ByteArray
  r : List ByteArray
  n : List ByteArray
  b : List ByteArray
  an : Bool

/-- A rule's cells. -/
structure El where
  c0 : Value
  c1 : Value
  c2 : Value
  c3 : Value
  c4 : Value
  an : Bool

def El.cells (e : El) : List Value := [e.c0, e.c1, e.c2, e.c3, e.c4, .bool e.an]

structure RuleV (e : El) (d : Rd) (w : World) : Prop where
  s0 : StrsAt e.c0 d.v w
  s1 : StrsAt e.c1 d.g w
  s2 : StrsAt e.c2 d.r w
  s3 : StrsAt e.c3 d.n w
  s4 : StrsAt e.c4 d.b w
  an : e.an = d.an

theorem RuleV.below {e : El} {d : Rd} {w w' : World} (h : RuleV e d w) (hb : Below w.heap.size w w') : RuleV e d w' :=
  ⟨W.StrsAt.below h.s0 hb, W.StrsAt.below h.s1 hb, W.StrsAt.below h.s2 hb, W.StrsAt.below h.s3 hb, W.StrsAt.below h.s4 hb, h.an⟩

/-- A slice of strings, nil or not, in one form. -/
theorem StrsAt.uni {ns : Value} {ss : List ByteArray} {w : World} (h : StrsAt ns ss w) : ∃ ao cap, ns = .slice ao ss.length cap ∧ ss.length ≤ cap ∧ cap ≤ maxLen ∧ (∀ i, i < ss.length → ∃ a, ao = some a ∧ w.cell? (a.add i) = some (.string (ss.getD i ByteArray.empty))) ∧ ∀ s ∈ ss, s.size ≤ maxLen := by
  rcases h with ⟨rfl, rfl⟩ | ⟨a, cap, h1, h2, h3, h4, h5⟩
  · exact ⟨none, 0, rfl, Nat.le_refl _, by decide, fun i hi => absurd hi (Nat.not_lt_zero i), fun s hs => by cases hs⟩
  · exact ⟨some a, cap, h1, h2, h3, fun i hi => ⟨a, rfl, h4 i hi⟩, h5⟩

/-- A slice of rules that came in. -/
def RulesAt (rs : Value) (ds : List Rd) (w : World) : Prop :=
  ∃ (ao : Option Addr) (cap : Nat), rs = .slice ao ds.length cap ∧ ds.length ≤ cap ∧ cap ≤ maxLen ∧ (ao = none → cap = 0) ∧
    ∀ i d, ds[i]? = some d → ∃ b o e, ao = some ⟨b, o, none⟩ ∧ w.rangeAt b (o + i * 6) (El.cells e) ∧ RuleV e d w

theorem rangeAt_below {w w' : World} {b o : Nat} {cs : List Value} (h : w.rangeAt b o cs) (hb : Below w.heap.size w w') : w'.rangeAt b o cs := fun j v hv => cell_below' (h j v hv) hb

theorem RulesAt.below {rs : Value} {ds : List Rd} {w w' : World} (h : RulesAt rs ds w) (hb : Below w.heap.size w w') : RulesAt rs ds w' := by
  obtain ⟨ao, cap, h1, h2, h3, h4, h5⟩ := h
  refine ⟨ao, cap, h1, h2, h3, h4, fun i d hd => ?_⟩
  obtain ⟨b, o, e, e1, e2, e3⟩ := h5 i d hd
  exact ⟨b, o, e, e1, rangeAt_below e2 hb, e3.below hb⟩

def Small (ss : List ByteArray) : Prop := ss.length ≤ 65536 ∧ ∀ s ∈ ss, s.size ≤ 1048576
structure Ok (d : Rd) : Prop where
  v : Small d.v
  g : Small d.g
  r : Small d.r
  n : Small d.n
  b : Small d.b

/-- Six cells, one by one. -/
theorem range6 {w : World} {b o : Nat} {e : El} (h : w.rangeAt b o e.cells) : w.cell? ⟨b, o, none⟩ = some e.c0 ∧ w.cell? ⟨b, o + 1, none⟩ = some e.c1 ∧ w.cell? ⟨b, o + 2, none⟩ = some e.c2 ∧ w.cell? ⟨b, o + 3, none⟩ = some e.c3 ∧ w.cell? ⟨b, o + 4, none⟩ = some e.c4 ∧ w.cell? ⟨b, o + 5, none⟩ = some (.bool e.an) :=
  ⟨h 0 _ rfl, h 1 _ rfl, h 2 _ rfl, h 3 _ rfl, h 4 _ rfl, h 5 _ rfl⟩

theorem drop_getD {ss : List ByteArray} {k : Nat} (h : k < ss.length) : ss.drop k = ss.getD k ByteArray.empty :: ss.drop (k + 1) := by
  rw [List.drop_eq_getElem_cons h]
  simp [List.getD, h]

/-- strsBytes, in plain words. -/
def sbGo : Int → List ByteArray → Int
  | n, [] => n
  | n, s :: t => if 1048576 < s.size then 1048577 else if 1048576 < n + s.size then 1048577 else sbGo (n + s.size) t
def sb (ss : List ByteArray) : Int := if 1048576 < ss.length then 1048577 else if 1048576 < 16 * (ss.length : Int) then 1048577 else sbGo (16 * ss.length) ss

theorem sbGo_le : ∀ (ss : List ByteArray) (n : Int), 0 ≤ n → n ≤ 1048576 → 0 ≤ sbGo n ss ∧ sbGo n ss ≤ 1048577 ∧ (sbGo n ss ≤ 1048576 → ∀ s ∈ ss, s.size ≤ 1048576)
  | [], n, h0, h1 => ⟨h0, by unfold sbGo; omega, fun _ s hs => by cases hs⟩
  | s :: t, n, h0, h1 => by
    unfold sbGo
    split
    · exact ⟨by omega, by omega, fun h => by omega⟩
    · split
      · exact ⟨by omega, by omega, fun h => by omega⟩
      · obtain ⟨a, b, c⟩ := sbGo_le t (n + s.size) (by omega) (by omega)
        refine ⟨a, b, fun h x hx => ?_⟩
        rcases List.mem_cons.1 hx with rfl | hx
        · omega
        · exact c h x hx

theorem sb_le (ss : List ByteArray) : 0 ≤ sb ss ∧ sb ss ≤ 1048577 ∧ (sb ss ≤ 1048576 → Small ss) := by
  unfold sb
  split
  · exact ⟨by omega, by omega, fun h => by omega⟩
  · split
    · exact ⟨by omega, by omega, fun h => by omega⟩
    · obtain ⟨a, b, c⟩ := sbGo_le ss (16 * ss.length) (by omega) (by omega)
      exact ⟨a, b, fun h => ⟨by omega, c h⟩⟩

set_option maxRecDepth 100000 in
set_option maxHeartbeats 1000000 in
theorem strsB_any {ns : Value} {ss : List ByteArray} {w : World} (h : StrsAt ns ss w) :
    Calls Try.prog 36 #[ns] w fun e w' => e = .returned (.int .i64 (sb ss)) ∧ w' = w := by
  obtain ⟨ao, cap, rfl, h2, h3, h4, h5⟩ := StrsAt.uni h
  clear h
  obtain ⟨n, hn⟩ : ∃ n, ss.length = n := ⟨_, rfl⟩
  have H4 : Hid (∀ i, i < ss.length → ∃ a, ao = some a ∧ w.cell? (a.add i) = some (.string (ss.getD i ByteArray.empty))) := h4
  have H5 : Hid (∀ s ∈ ss, s.size ≤ maxLen) := h5
  have HN : Hid (ss.length = n) := hn
  obtain ⟨T, hT⟩ : ∃ T, sb ss = T := ⟨_, rfl⟩
  have HT : Hid (T = if 1048576 < n then 1048577 else if 1048576 < 16 * (n : Int) then 1048577 else sbGo (16 * n) ss) := by
    show _ = _
    rw [← hT, ← hn]; rfl
  rw [hn] at h2 ⊢
  rw [hT]
  clear hn h4 h5 hT
  unfold maxLen at h3
  by_cases hl : n ≤ 1048576
  · by_cases hb : 16 * (n : Int) ≤ 1048576
    · have HT2 : Hid (sbGo (16 * (n : Int)) (ss.drop 0) = T) := by
        have e := HT.out
        rw [if_neg (by omega), if_neg (by omega)] at e
        exact e.symm
      clear HT
      go_enter Try.func36, Try.ntmps36
      go_wp2
      go_loop [3, 4] (fun q i => ∃ (k : Nat) (m : Int), k ≤ n ∧ i = .int .i64 k ∧ q = .int .i64 m ∧ 0 ≤ m ∧ m ≤ 1048576 ∧ Hid (sbGo m (ss.drop k) = T)) (fun _ i => n - (intOf i).toNat)
      case atStart => exact ⟨0, _, Nat.zero_le _, rfl, rfl, by omega, by omega, HT2⟩
      case round =>
        obtain ⟨k, m, hk, rfl, rfl, hm0, hm1, HS⟩ := hrel
        by_cases hkn : k < n
        · obtain ⟨a, rfl, hc⟩ := H4.out k (by have := HN.out; omega)
          have hz := getD_size H5.out k (by have := HN.out; omega)
          unfold maxLen at hz
          have HG : Hid (sbGo m (ss.getD k ByteArray.empty :: ss.drop (k + 1)) = T) := by
            have hkl : k < ss.length := by have := HN.out; omega
            show _ = _
            rw [← drop_getD hkl]; exact HS.out
          obtain ⟨s, hs⟩ : ∃ s, ss.getD k ByteArray.empty = s := ⟨_, rfl⟩
          rw [hs] at hc hz HG
          clear hs
          by_cases hA : 1048576 < s.size
          · have HX : Hid (1048577 = T) := by
              have := HG.out
              unfold sbGo at this
              rwa [if_pos hA] at this
            go_wp2
            go_ret
            exact ⟨by rw [← HX.out]; rfl, rfl⟩
          by_cases hB : 1048576 < m + s.size
          · have HX : Hid (1048577 = T) := by
              have := HG.out
              unfold sbGo at this
              rwa [if_neg hA, if_pos hB] at this
            go_wp2
            go_ret
            exact ⟨by rw [← HX.out]; rfl, rfl⟩
          have HX : Hid (sbGo (m + s.size) (ss.drop (k + 1)) = T) := by
            have := HG.out
            unfold sbGo at this
            rwa [if_neg hA, if_neg hB] at this
          go_wp2
          go_round
          case rel => exact ⟨k + 1, _, by omega, by go_num, rfl, by omega, by omega, HX⟩
          case measure => simp [intOf]; omega
        · have HX : Hid (m = T) := by
            have := HS.out
            rw [List.drop_eq_nil_of_le (by have := HN.out; omega)] at this
            exact this
          go_wp2
          go_ret
          exact ⟨by rw [← HX.out]; rfl, rfl⟩
    · have HX : Hid (1048577 = T) := by
        have e := HT.out
        rw [if_neg (by omega), if_pos (by omega)] at e
        exact e.symm
      go_enter Try.func36, Try.ntmps36
      go_wp2
      go_ret
      exact ⟨by rw [← HX.out]; rfl, rfl⟩
  · have HX : Hid (1048577 = T) := by
      have e := HT.out
      rw [if_pos (by omega)] at e
      exact e.symm
    go_enter Try.func36, Try.ntmps36
    go_wp2
    go_ret
    exact ⟨by rw [← HX.out]; rfl, rfl⟩

/-- maxLen, in plain words. -/
def mlGo : Int → List ByteArray → Int
  | m, [] => m
  | m, s :: t => mlGo (if m < s.size then s.size else m) t
def ml (ss : List ByteArray) : Int := mlGo 0 ss

theorem mlGo_le : ∀ (ss : List ByteArray) (n : Int), 0 ≤ n → n ≤ 1048576 → (∀ s ∈ ss, s.size ≤ 1048576) → 0 ≤ mlGo n ss ∧ mlGo n ss ≤ 1048576
  | [], n, h0, h1, _ => ⟨h0, h1⟩
  | s :: t, n, h0, h1, h => by
    unfold mlGo
    have hs := h s (List.mem_cons_self ..)
    split
    · exact mlGo_le t _ (by omega) (by omega) fun x hx => h x (List.mem_cons_of_mem _ hx)
    · exact mlGo_le t _ h0 h1 fun x hx => h x (List.mem_cons_of_mem _ hx)

theorem ml_le {ss : List ByteArray} (h : Small ss) : 0 ≤ ml ss ∧ ml ss ≤ 1048576 := mlGo_le ss 0 (by omega) (by omega) h.2

set_option maxRecDepth 100000 in
set_option maxHeartbeats 1000000 in
theorem maxLen_any {ns : Value} {ss : List ByteArray} {w : World} (h : StrsAt ns ss w) (hz : Small ss) :
    Calls Try.prog 41 #[ns] w fun e w' => e = .returned (.int .i64 (ml ss)) ∧ w' = w := by
  obtain ⟨ao, cap, rfl, h2, h3, h4, h5⟩ := StrsAt.uni h
  clear h
  obtain ⟨n, hn⟩ : ∃ n, ss.length = n := ⟨_, rfl⟩
  have H4 : Hid (∀ i, i < ss.length → ∃ a, ao = some a ∧ w.cell? (a.add i) = some (.string (ss.getD i ByteArray.empty))) := h4
  have HZ : Hid (Small ss) := hz
  have HN : Hid (ss.length = n) := hn
  obtain ⟨T, hT⟩ : ∃ T, ml ss = T := ⟨_, rfl⟩
  have HT : Hid (mlGo 0 (ss.drop 0) = T) := hT
  have hl : n ≤ 65536 := by rw [← hn]; exact hz.1
  rw [hn] at h2 ⊢
  rw [hT]
  clear hn h4 h5 hz hT
  go_enter Try.func41, Try.ntmps41
  go_wp2
  go_loop [3, 4] (fun q i => ∃ (k : Nat) (m : Int), k ≤ n ∧ i = .int .i64 k ∧ q = .int .i64 m ∧ 0 ≤ m ∧ m ≤ 1048576 ∧ Hid (mlGo m (ss.drop k) = T)) (fun _ i => n - (intOf i).toNat)
  case atStart => exact ⟨0, _, Nat.zero_le _, rfl, rfl, by omega, by omega, HT⟩
  case round =>
    obtain ⟨k, m, hk, rfl, rfl, hm0, hm1, HS⟩ := hrel
    by_cases hkn : k < n
    · obtain ⟨a, rfl, hc⟩ := H4.out k (by have := HN.out; omega)
      have hkl : k < ss.length := by have := HN.out; omega
      have hz : (ss.getD k ByteArray.empty).size ≤ 1048576 := by
        have : ss.getD k ByteArray.empty = ss[k] := by simp [List.getD, hkl]
        rw [this]
        exact HZ.out.2 _ (List.getElem_mem hkl)
      have HG : Hid (mlGo m (ss.getD k ByteArray.empty :: ss.drop (k + 1)) = T) := by
        show _ = _
        rw [← drop_getD hkl]; exact HS.out
      obtain ⟨s, hs⟩ : ∃ s, ss.getD k ByteArray.empty = s := ⟨_, rfl⟩
      rw [hs] at hc hz HG
      clear hs hkl
      by_cases hA : m < s.size
      · have HX : Hid (mlGo s.size (ss.drop (k + 1)) = T) := by
          have := HG.out
          unfold mlGo at this
          rwa [if_pos hA] at this
        go_wp2
        go_round
        case rel => exact ⟨k + 1, _, by omega, by go_num, rfl, by omega, by omega, HX⟩
        case measure => simp [intOf]; omega
      · have HX : Hid (mlGo m (ss.drop (k + 1)) = T) := by
          have := HG.out
          unfold mlGo at this
          rwa [if_neg hA] at this
        go_wp2
        go_round
        case rel => exact ⟨k + 1, _, by omega, by go_num, rfl, by omega, by omega, HX⟩
        case measure => simp [intOf]; omega
    · have HX : Hid (m = T) := by
        have := HS.out
        rw [List.drop_eq_nil_of_le (by have := HN.out; omega)] at this
        exact this
      go_wp2
      go_ret
      exact ⟨by rw [← HX.out]; rfl, rfl⟩

/-- mulCap, in plain words. -/
def mc (a b : Nat) : Nat := if a * b ≤ 67108864 then a * b else 67108865

theorem mc_le (a b : Nat) : mc a b ≤ 67108865 := by unfold mc; split <;> omega

set_option maxRecDepth 100000 in
set_option maxHeartbeats 1000000 in
theorem mulCap_any (a b : Nat) (w : World) (ha : a ≤ 4611686018427387904) (hb : b ≤ 4611686018427387904) :
    Calls Try.prog 42 #[.int .i64 a, .int .i64 b] w fun e w' => e = .returned (.int .i64 (mc a b : Nat)) ∧ w' = w := by
  by_cases h0 : a = 0
  · subst h0
    go_enter Try.func42, Try.ntmps42
    go_wp2
    go_ret
    exact ⟨by unfold mc; simp, rfl⟩
  by_cases h1 : b = 0
  · subst h1
    go_enter Try.func42, Try.ntmps42
    go_wp2
    go_ret
    exact ⟨by unfold mc; simp, rfl⟩
  by_cases h2 : 67108864 < a
  · have hm : mc a b = 67108865 := by
      unfold mc
      rw [if_neg]
      have := Nat.le_mul_of_pos_right a (show 0 < b by omega)
      omega
    rw [hm]
    clear hm
    go_enter Try.func42, Try.ntmps42
    go_wp2
    go_ret
    exact ⟨rfl, rfl⟩
  by_cases h3 : 67108864 < b
  · have hm : mc a b = 67108865 := by
      unfold mc
      rw [if_neg]
      have := Nat.le_mul_of_pos_left b (show 0 < a by omega)
      omega
    rw [hm]
    clear hm
    go_enter Try.func42, Try.ntmps42
    go_wp2
    go_ret
    exact ⟨rfl, rfl⟩
  obtain ⟨q, hq⟩ : ∃ q : Nat, 67108864 / b = q := ⟨_, rfl⟩
  have hdiv : (67108864 : Int).tdiv (b : Int) = (q : Int) := by
    rw [← hq]
    exact (Int.ofNat_tdiv 67108864 b).symm
  have hql : q ≤ 67108864 := by rw [← hq]; exact Nat.div_le_self _ _
  have hiff : a ≤ q ↔ a * b ≤ 67108864 := by rw [← hq]; exact Nat.le_div_iff_mul_le (by omega)
  by_cases h4 : a ≤ q
  · have h5 := hiff.1 h4
    have hm : mc a b = a * b := by unfold mc; rw [if_pos h5]
    rw [hm]
    have h6 : (a : Int) * (b : Int) ≤ 67108864 := by
      have := Int.ofNat_le.2 h5
      rw [Int.natCast_mul] at this
      exact this
    have h7 : 0 ≤ (a : Int) * (b : Int) := Int.mul_nonneg (by omega) (by omega)
    have HC : Hid (((a * b : Nat) : Int) = (a : Int) * (b : Int)) := Int.natCast_mul a b
    clear hm hiff hq h5
    go_enter Try.func42, Try.ntmps42
    go_wp2
    go_ret
    exact ⟨by rw [HC.out]; rfl, rfl⟩
  · have hm : mc a b = 67108865 := by unfold mc; rw [if_neg (fun h => h4 (hiff.2 h))]
    rw [hm]
    clear hm hiff hq
    go_enter Try.func42, Try.ntmps42
    go_wp2
    go_ret
    exact ⟨rfl, rfl⟩

set_option maxRecDepth 100000 in
theorem oneStr_any {ns : Value} {x : ByteArray} {w : World} (h : StrsAt ns [x] w) : Calls Try.prog 18 #[ns, .string x] w fun e w' => e = .returned (.bool true) ∧ w' = w := by
  rcases h with ⟨_, h⟩ | ⟨a, cap, rfl, h2, h3, h4, h5⟩
  · cases h
  have hc := h4 0 (by simp)
  have hc : w.cell? (a.add 0) = some (.string x) := hc
  have hc2 : w.cell? a = some (.string x) := hc
  have hx : (x.toList == x.toList) = true := by simp
  clear h4 h5
  go_enter Try.func18, Try.ntmps18
  go_wp2
  go_ret
  exact ⟨rfl, rfl⟩
end Go.Proofs.Qxb6606073a.W
