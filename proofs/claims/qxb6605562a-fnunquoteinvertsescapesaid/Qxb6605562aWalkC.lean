import Derived.Test.Qxb6605562aWalkB
import Derived.Lib.UnsafeStr
import Derived.Laws.IdiomStrings
import Derived.Lib.IndexBytes
namespace Go.Proofs.Qxb6605562a.fnUnquoteInvertsEscape
open Go.RowKit Go.Lib
open Plain

theorem Try.info5 : (Try.prog.info? 5).map (fun i => (i.zero, i.size, i.bytes)) = some (some (.int .u8 0), 1, 1) := by kernel_rfl

theorem one_u8 (n : Int) : ∀ u ∈ [Value.int .u8 n], u.oneCell' = true := by intro u hu; simp at hu; subst hu; rfl

def UnquoteSaid : Prop := ∀ (t s : ByteArray) (w : World), s.data.toList = 34 :: (esc t.data.toList ++ [34]) → t.size ≤ 524288 →
    Calls Try.prog 18 #[.string s] w fun e w' => e = .returned (.tuple #[.string t, .bool true]) ∧ Below w.heap.size w w'

/-- 'string(q)' of a row that the call owns. -/
theorem conv_own {w : World} {B g n cap : Nat} {l : List UInt8} (h : w.ownsRow B 5 1 (.slice (some ⟨g, 0, none⟩) n cap) n (byteCells l)) :
    (convert 22 9 (.slice (some ⟨g, 0, none⟩) n cap)).run Try.prog w = .ok (.string ⟨l.toArray⟩) w := by
  have hl : l.length = n := by have := h.1; rw [byteCells_length] at this; omega
  subst hl
  refine run_convert_bytes_back w 22 9 5 ⟨g, 0, none⟩ cap l Try.underlying22 Try.underlying5 Try.underlying9 (fun j hj => ?_)
  rcases h.2 with ⟨h0, _⟩ | ⟨g', cap', cur, hv, _, hg, _, _, hcs, htk⟩
  · cases h0
  · cases hv
    have hc : cur.toList[j]? = some (.int .u8 (l[j].toNat : Int)) := by
      have : (cur.toList.take (l.length * 1))[j]? = (byteCells l)[j]? := by rw [htk]
      rw [List.getElem?_take_of_lt (by omega)] at this
      rw [this]
      simp [byteCells, hj]
    have ha : (⟨g, 0, none⟩ : Addr).add j = ⟨g, j, none⟩ := by unfold Addr.add; split <;> simp_all
    rw [ha]
    unfold World.cell?
    simp only [hg]
    simpa using hc

set_option maxHeartbeats 800000 in
theorem law_small (HU : UnquoteSaid) (t : ByteArray) (w : World) (hs : t.size ≤ 524288) :
    Calls Try.prog 6 #[.string t] w fun e w' => e = .returned (.bool true) ∧ Below w.heap.size w w' := by
  have hmx : t.size ≤ maxLen := by unfold maxLen; omega
  have hd : decide (t.size ≤ 1048576) = true := decide_eq_true (by omega)
  have hd2 : decide ((524288 : Int) < (t.size : Int)) = false := decide_eq_false (by omega)
  obtain ⟨i0, hi, hz0, hz1, hz2⟩ := info_parts Try.info5
  go_enter Try.func6, Try.ntmps6
  go_wp2_with (first
    | (go_at_call 20; refine (zz_any _ _ hmx).mono ?_; rintro e w' ⟨rfl, rfl⟩; rw [hd])
    | (at_make; refine wpList_make_own _ rfl _ _ 22 rfl w.heap.size 5 i0 (.int .u8 0) 1 Try.underlying22 hi hz0 hz1 _ _ _ (2 * t.size + 2) rfl rfl (by omega) (by rw [hz2]; omega) (by unfold maxLen; omega) (Nat.le_refl _) ?_; intro w0 hown0 hgrow0)
    | (at_builtin; refine wpList_append_fits _ rfl (.tmp 18) (.tmp 19) 22 rfl w.heap.size 5 i0 1 Try.underlying22 hi hz1 w.heap.size 0 (2 * t.size + 2) [] rfl (hown0.alloc _) ⟨w0.heap.size, 0, none⟩ 1 1 [.int .u8 34] rfl rfl (cell_one_new _ _ _) (one_u8 _) (by omega) ?_; intro w1 hown1 hgrow1))
  go_loopw [3, 4] (fun q i wr => ∃ k n : Nat, k ≤ t.size ∧ i = .int .i64 k ∧ q = .slice (some ⟨w.heap.size, 0, none⟩) n (2 * t.size + 2) ∧ n ≤ 2 * k + 1 ∧
      wr.ownsRow w.heap.size 5 1 (.slice (some ⟨w.heap.size, 0, none⟩) n (2 * t.size + 2)) n (byteCells (34 :: esc (t.data.toList.take k))) ∧ Below w.heap.size w wr)
    (fun _ i _ => t.size - (intOf i).toNat)
  case atStart => exact ⟨0, 1, Nat.zero_le _, rfl, rfl, by omega, hown1, ((((Below.refl _ _).grown hgrow0 (Nat.le_refl _) (fun k h => by cases h)).alloc hgrow0.size _).grown hgrow1 (by simp; exact Nat.le_succ_of_le hgrow0.size) (fun k h => by cases h; exact Nat.le_refl _))⟩
  case round =>
    obtain ⟨k, n, hk, rfl, rfl, hn, hown, hbel⟩ := hrel
    by_cases hkt : k < t.size
    · obtain ⟨c, hc⟩ : ∃ c, t[k] = c := ⟨_, rfl⟩
      have hcl : t.data.toList[k]? = some c := by rw [← hc]; exact Lib.data_getElem? t k hkt
      have hts := esc_take_succ _ k c hcl
      have hsz := hbel.size
      cases hsp : special c with
      | true =>
        have X : Hid (byteCells (34 :: esc (t.data.toList.take (k + 1))) = byteCells (34 :: esc (t.data.toList.take k)) ++ [.int .u8 92] ++ [.int .u8 c.toNat]) := by
          rw [hts, esc1_yes hsp]; simp [byteCells, Hid]
        have hcs := special_cases hsp
        clear hts hsp hcl
        rcases hcs with h34 | h92
        · subst h34
          go_wp2_with (first
            | (at_builtin; refine wpList_append_fits _ rfl (.tmp 37) (.tmp 38) 22 rfl w.heap.size 5 i0 1 Try.underlying22 hi hz1 w.heap.size n (2 * t.size + 2) _ rfl (hown.alloc _) ⟨wr.heap.size, 0, none⟩ 1 1 [.int .u8 92] rfl rfl (cell_one_new _ _ _) (one_u8 _) (by omega) ?_; intro wA hownA hgrowA)
            | (at_builtin; refine wpList_append_fits _ rfl (.tmp 40) (.tmp 44) 22 rfl w.heap.size 5 i0 1 Try.underlying22 hi hz1 w.heap.size (n + 1) (2 * t.size + 2) _ rfl (hownA.alloc _) ⟨wA.heap.size, 0, none⟩ 1 1 [.int .u8 34] rfl rfl (cell_one_new _ _ _) (one_u8 _) (by omega) ?_; intro w2 hown2 hgrow2))
          go_roundw
          case rel =>
            have hs1 : w.heap.size ≤ wA.heap.size := Nat.le_trans hsz (Nat.le_trans (by simp) hgrowA.size)
            exact ⟨k + 1, n + 1 + 1, by omega, by go_num, rfl, by omega, by rw [X.out]; exact hown2, (((hbel.alloc hsz _).grown hgrowA (by simp; omega) (fun k h => by cases h; exact Nat.le_refl _)).alloc hs1 _).grown hgrow2 (by simp; omega) (fun k h => by cases h; exact Nat.le_refl _)⟩
          case measure => simp [intOf]; omega
        · subst h92
          go_wp2_with (first
            | (at_builtin; refine wpList_append_fits _ rfl (.tmp 37) (.tmp 38) 22 rfl w.heap.size 5 i0 1 Try.underlying22 hi hz1 w.heap.size n (2 * t.size + 2) _ rfl (hown.alloc _) ⟨wr.heap.size, 0, none⟩ 1 1 [.int .u8 92] rfl rfl (cell_one_new _ _ _) (one_u8 _) (by omega) ?_; intro wA hownA hgrowA)
            | (at_builtin; refine wpList_append_fits _ rfl (.tmp 40) (.tmp 44) 22 rfl w.heap.size 5 i0 1 Try.underlying22 hi hz1 w.heap.size (n + 1) (2 * t.size + 2) _ rfl (hownA.alloc _) ⟨wA.heap.size, 0, none⟩ 1 1 [.int .u8 92] rfl rfl (cell_one_new _ _ _) (one_u8 _) (by omega) ?_; intro w2 hown2 hgrow2))
          go_roundw
          case rel =>
            have hs1 : w.heap.size ≤ wA.heap.size := Nat.le_trans hsz (Nat.le_trans (by simp) hgrowA.size)
            exact ⟨k + 1, n + 1 + 1, by omega, by go_num, rfl, by omega, by rw [X.out]; exact hown2, (((hbel.alloc hsz _).grown hgrowA (by simp; omega) (fun k h => by cases h; exact Nat.le_refl _)).alloc hs1 _).grown hgrow2 (by simp; omega) (fun k h => by cases h; exact Nat.le_refl _)⟩
          case measure => simp [intOf]; omega
      | false =>
        have X : Hid (byteCells (34 :: esc (t.data.toList.take (k + 1))) = byteCells (34 :: esc (t.data.toList.take k)) ++ [.int .u8 c.toNat]) := by
          rw [hts, esc1_no hsp]; simp [byteCells, Hid]
        obtain ⟨n1, n2⟩ := special_not hsp
        have h34 : ((c.toNat : Int) == 34) = false := beq_eq_false_iff_ne.2 (fun h => n1 (UInt8.toNat_inj.1 (by have : (34 : UInt8).toNat = 34 := rfl; omega)))
        have h92 : ((c.toNat : Int) == 92) = false := beq_eq_false_iff_ne.2 (fun h => n2 (UInt8.toNat_inj.1 (by have : (92 : UInt8).toNat = 92 := rfl; omega)))
        clear hts hsp hcl n1 n2
        go_wp2_with (at_builtin; refine wpList_append_fits _ rfl (.tmp 40) (.tmp 44) 22 rfl w.heap.size 5 i0 1 Try.underlying22 hi hz1 w.heap.size n (2 * t.size + 2) _ rfl (hown.alloc _) ⟨wr.heap.size, 0, none⟩ 1 1 [.int .u8 c.toNat] rfl rfl (cell_one_new _ _ _) (one_u8 _) (by omega) ?_; intro w2 hown2 hgrow2)
        go_roundw
        case rel => exact ⟨k + 1, n + 1, by omega, by go_num, rfl, by omega, by rw [X.out]; exact hown2, (hbel.alloc hsz _).grown hgrow2 (by simp; omega) (fun k h => by cases h; exact Nat.le_refl _)⟩
        case measure => simp [intOf]; omega
    · obtain rfl : k = t.size := by omega
      have hsz := hbel.size
      rw [List.take_of_length_le (by rw [← Lib.size_eq]; exact Nat.le_refl _)] at hown
      go_wp2_with (first
        | (at_builtin; refine wpList_append_fits _ rfl (.tmp 46) (.tmp 47) 22 rfl w.heap.size 5 i0 1 Try.underlying22 hi hz1 w.heap.size n (2 * t.size + 2) _ rfl (hown.alloc _) ⟨wr.heap.size, 0, none⟩ 1 1 [.int .u8 34] rfl rfl (cell_one_new _ _ _) (one_u8 _) (by omega) ?_; intro w2 hown2 hgrow2; have hcv := conv_own (l := 34 :: (esc t.data.toList ++ [34])) (by simpa [byteCells] using hown2))
        | (go_at_call 18; refine (HU t _ _ rfl hs).mono ?_; rintro e w3 ⟨rfl, hb3⟩))
      go_ret
      exact ⟨rfl, ((hbel.alloc hsz _).grown hgrow2 (by simp; omega) (fun k h => by cases h; exact Nat.le_refl _)).trans (hb3.mono (Nat.le_trans hsz (Nat.le_trans (by simp) hgrow2.size)))⟩

theorem law_all (HU : UnquoteSaid) (t : ByteArray) (hm : t.size ≤ maxLen) (w : World) :
    Calls Try.prog 6 #[.string t] w fun e w' => e = .returned (.bool true) ∧ Below w.heap.size w w' := by
  by_cases h : t.size ≤ 524288
  · exact law_small HU t w h
  · by_cases h2 : t.size ≤ 1048576
    · have hd : decide (t.size ≤ 1048576) = true := decide_eq_true h2
      go_enter Try.func6, Try.ntmps6
      go_wp2_with (go_at_call 20; refine (zz_any _ _ hm).mono ?_; rintro e w' ⟨rfl, rfl⟩; rw [hd])
      go_ret
      exact ⟨rfl, Below.refl _ _⟩
    · have hd : decide (t.size ≤ 1048576) = false := decide_eq_false h2
      go_enter Try.func6, Try.ntmps6
      go_wp2_with (go_at_call 20; refine (zz_any _ _ hm).mono ?_; rintro e w' ⟨rfl, rfl⟩; rw [hd])
      go_ret
      exact ⟨rfl, Below.refl _ _⟩
end Go.Proofs.Qxb6605562a.fnUnquoteInvertsEscape
