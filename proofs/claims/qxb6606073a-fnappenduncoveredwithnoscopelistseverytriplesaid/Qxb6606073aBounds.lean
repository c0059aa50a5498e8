import Derived.Test.Qxb6606073aFrame
import Derived.Test.Qxb6606073aMaps
import Derived.LoopN
import Derived.Lib.IndexBytes
namespace Go.Proofs.Qxb6606073a.W
open Go.RowKit
set_option linter.unusedVariables false
set_option linter.unusedSimpArgs false

theorem cell_below' {w w' : World} {a : Addr} {x : Value} (h : w.cell? a = some x) (hb : Below w.heap.size w w') : w'.cell? a = some x := (hb.cell (World.block_lt_of_cell? w _ h)).trans h

theorem StrsAt.below {ns : Value} {ss : List ByteArray} {w w' : World} (h : StrsAt ns ss w) (hb : Below w.heap.size w w') : StrsAt ns ss w' := by
  rcases h with h | ⟨a, cap, h1, h2, h3, h4, h5⟩
  · exact .inl h
  · exact .inr ⟨a, cap, h1, h2, h3, fun i hi => cell_below' (h4 i hi) hb, h5⟩

/-- A Bool, in a world that is as it was. -/
def RB (p : Bool → Prop) (w : World) (e : Ending) (w' : World) : Prop := ∃ r : Bool, e = .returned (.bool r) ∧ w = w' ∧ p r
def RI (p : Int → Prop) (w : World) (e : Ending) (w' : World) : Prop := ∃ r : Int, e = .returned (.int .i64 r) ∧ w = w' ∧ p r

set_option maxRecDepth 100000 in
theorem capBytes_any (n : Int) (w : World) (h0 : 0 ≤ n) (h1 : n ≤ 9000000) :
    Calls Try.prog 40 #[.int .i64 n] w fun e w' => RI (fun r => 0 ≤ r ∧ r ≤ 1048577) w e w' := by
  go_enter Try.func40, Try.ntmps40
  go_wp2
  all_goals (go_ret; exact ⟨_, rfl, rfl, by omega⟩)

set_option maxRecDepth 100000 in
theorem textBytes_any (a b c d : ByteArray) (w : World) (ha : a.size ≤ maxLen) (hb : b.size ≤ maxLen) (hc : c.size ≤ maxLen) (hd : d.size ≤ maxLen) :
    Calls Try.prog 22 #[.string a, .string b, .string c, .string d] w fun e w' => RI (fun r => 0 ≤ r ∧ r ≤ 1048577) w e w' := by
  unfold maxLen at ha hb hc hd
  by_cases h : a.size ≤ 1048576 ∧ b.size ≤ 1048576 ∧ c.size ≤ 1048576 ∧ d.size ≤ 1048576
  · obtain ⟨h1, h2, h3, h4⟩ := h
    have R := capBytes_any ((a.size : Int) + b.size + c.size + d.size) w (by omega) (by omega)
    go_enter Try.func22, Try.ntmps22
    go_wp2_with (go_at_call 40; refine R.mono ?_; rintro e w' ⟨r, rfl, rfl, hr⟩)
    go_ret
    exact ⟨_, rfl, rfl, hr⟩
  · rcases (show 1048576 < a.size ∨ (a.size ≤ 1048576 ∧ 1048576 < b.size) ∨ (a.size ≤ 1048576 ∧ b.size ≤ 1048576 ∧ 1048576 < c.size) ∨ (a.size ≤ 1048576 ∧ b.size ≤ 1048576 ∧ c.size ≤ 1048576 ∧ 1048576 < d.size) by omega) with h | ⟨h1, h2⟩ | ⟨h1, h2, h3⟩ | ⟨h1, h2, h3, h4⟩
    · go_enter Try.func22, Try.ntmps22
      go_wp2
      go_ret
      exact ⟨_, rfl, rfl, by omega⟩
    · go_enter Try.func22, Try.ntmps22
      go_wp2
      go_ret
      exact ⟨_, rfl, rfl, by omega⟩
    · go_enter Try.func22, Try.ntmps22
      go_wp2
      go_ret
      exact ⟨_, rfl, rfl, by omega⟩
    · go_enter Try.func22, Try.ntmps22
      go_wp2
      go_ret
      exact ⟨_, rfl, rfl, by omega⟩

/-- A string of the list, and its bound. -/
theorem getD_size {ss : List ByteArray} (h : ∀ s ∈ ss, s.size ≤ maxLen) (k : Nat) (hk : k < ss.length) : (ss.getD k ByteArray.empty).size ≤ maxLen := by
  have : ss.getD k ByteArray.empty = ss[k] := by simp [List.getD, hk]
  rw [this]
  exact h _ (List.getElem_mem hk)

set_option maxRecDepth 100000 in
set_option maxHeartbeats 1000000 in
theorem strsBytes_any {ns : Value} {ss : List ByteArray} {w : World} (h : StrsAt ns ss w) (hl : ss.length ≤ 1048576) :
    Calls Try.prog 36 #[ns] w fun e w' => RI (fun r => 0 ≤ r ∧ r ≤ 1048577) w e w' := by
  rcases h with ⟨rfl, rfl⟩ | ⟨a, cap, rfl, h2, h3, h4, h5⟩
  · go_enter Try.func36, Try.ntmps36
    go_wp2
    refine wp_loop_rounds 1 ?_
    rw [rounds_succ]
    go_wp2
    go_ret
    exact ⟨_, rfl, rfl, by omega⟩
  · obtain ⟨n, hn⟩ : ∃ n, ss.length = n := ⟨_, rfl⟩
    have H4 : Hid (∀ i, i < ss.length → w.cell? (a.add i) = some (.string (ss.getD i ByteArray.empty))) := h4
    have H5 : Hid (∀ s ∈ ss, s.size ≤ maxLen) := h5
    have HN : Hid (ss.length = n) := hn
    rw [hn] at hl ⊢
    clear hn h4 h5 h2
    by_cases hb : 16 * (n : Int) ≤ 1048576
    · go_enter Try.func36, Try.ntmps36
      go_wp2
      go_loop [3, 4] (fun q i => ∃ (k : Nat) (m : Int), k ≤ n ∧ i = .int .i64 k ∧ q = .int .i64 m ∧ 0 ≤ m ∧ m ≤ 1048576) (fun _ i => n - (intOf i).toNat)
      case atStart => exact ⟨0, _, Nat.zero_le _, rfl, rfl, by omega, by omega⟩
      case round =>
        obtain ⟨k, m, hk, rfl, rfl, hm0, hm1⟩ := hrel
        by_cases hkn : k < n
        · have hc := H4.out k (by have := HN.out; omega)
          have hz := getD_size H5.out k (by have := HN.out; omega)
          unfold maxLen at hz
          obtain ⟨s, hs⟩ : ∃ s, ss.getD k ByteArray.empty = s := ⟨_, rfl⟩
          rw [hs] at hc hz
          clear hs
          go_wp2
          all_goals first
            | (go_ret; exact ⟨_, rfl, rfl, by omega⟩)
            | (go_round
               case rel => exact ⟨k + 1, _, by omega, by go_num, rfl, by omega, by omega⟩
               case measure => simp [intOf]; omega)
        · go_wp2
          go_ret
          exact ⟨_, rfl, rfl, by omega⟩
    · go_enter Try.func36, Try.ntmps36
      go_wp2
      go_ret
      exact ⟨_, rfl, rfl, by omega⟩

set_option maxRecDepth 100000 in
theorem hasStr_any {ns : Value} {ss : List ByteArray} {w : World} (h : StrsAt ns ss w) (hl : ss.length ≤ 1048576) (x : ByteArray) :
    Calls Try.prog 34 #[ns, .string x] w fun e w' => e = .returned (.bool (mem x ss)) ∧ w = w' := by
  rcases h with ⟨rfl, rfl⟩ | ⟨a, cap, rfl, h2, h3, h4, h5⟩
  · go_enter Try.func34, Try.ntmps34
    go_wp2
    refine wp_loop_rounds 1 ?_
    rw [rounds_succ]
    go_wp2
    go_ret
    exact ⟨rfl, rfl⟩
  · obtain ⟨n, hn⟩ : ∃ n, ss.length = n := ⟨_, rfl⟩
    have H4 : Hid (∀ i, i < ss.length → w.cell? (a.add i) = some (.string (ss.getD i ByteArray.empty))) := h4
    have HN : Hid (ss.length = n) := hn
    rw [hn] at hl ⊢
    clear hn h4 h5 h2
    go_enter Try.func34, Try.ntmps34
    go_wp2
    go_loop [5] (fun i => ∃ (k : Nat), k ≤ n ∧ i = .int .i64 k ∧ Hid (mem x (ss.take k) = false)) (fun i => n - (intOf i).toNat)
    case atStart => exact ⟨0, Nat.zero_le _, rfl, show mem x (ss.take 0) = false by simp [mem]⟩
    case round =>
      obtain ⟨k, hk, rfl, HM⟩ := hrel
      by_cases hkn : k < n
      · have hkl : k < ss.length := by have := HN.out; omega
        have hc := H4.out k hkl
        obtain ⟨s, hs⟩ : ∃ s, ss.getD k ByteArray.empty = s := ⟨_, rfl⟩
        have hsk : ss[k]? = some s := by rw [← hs]; simp [List.getD, hkl]
        have hsm : s ∈ ss := List.mem_of_getElem? hsk
        have hts : mem x (ss.take (k + 1)) = (mem x (ss.take k) || (s.data.toList == x.data.toList)) := by
          unfold mem
          rw [List.take_add_one, hsk, List.any_append]
          simp
        have HS : Hid (mem x (ss.take (k + 1)) = (s.data.toList == x.data.toList)) := by
          show mem x (ss.take (k + 1)) = _
          rw [hts, HM.out, Bool.false_or]
        rw [hs] at hc
        clear hs hsk hts
        have htl : (s.toList == x.toList) = (s.data.toList == x.data.toList) := by rw [Lib.toList_data, Lib.toList_data]
        have HT : Hid (s ∈ ss) := hsm
        clear hsm
        cases he : (s.toList == x.toList) with
        | true =>
          have hx : mem x ss = true := by
            unfold mem
            rw [List.any_eq_true]
            exact ⟨s, HT.out, by rw [← htl]; exact he⟩
          have HX : Hid (mem x ss = true) := hx
          clear htl hx
          go_wp2
          go_ret
          exact ⟨by rw [HX.out]; rfl, rfl⟩
        | false =>
          have HF : Hid (mem x (ss.take (k + 1)) = false) := by
            show _ = _
            rw [HS.out, ← htl]; exact he
          clear htl
          go_wp2
          go_round
          case rel => exact ⟨k + 1, by omega, by go_num, HF⟩
          case measure => simp [intOf]; omega
      · have hx : mem x ss = false := by
          have e := HM.out
          rwa [List.take_of_length_le (by have := HN.out; omega)] at e
        have HX : Hid (mem x ss = false) := hx
        clear hx
        go_wp2
        go_ret
        exact ⟨by rw [HX.out]; rfl, rfl⟩
end Go.Proofs.Qxb6606073a.W
