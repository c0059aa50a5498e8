import Derived.Test.Qxb6605562aAny
import Derived.Test.Qxb6605562aWalkC
namespace Go.Proofs.Qxb6605562a.fnUnquoteInvertsEscape
open Go.RowKit Go.Lib
open Plain

theorem ba_ext {a b : ByteArray} (h : a.data.toList = b.data.toList) : a = b := by
  apply ByteArray.ext
  exact Array.toList_inj.1 h

theorem get_of_list {s : ByteArray} {k : Nat} {c : UInt8} (h : s.data.toList[k]? = some c) : ∃ hk : k < s.size, s[k] = c := by
  have hk : k < s.size := by
    have := (List.getElem?_eq_some_iff.1 h).1
    simpa using this
  refine ⟨hk, ?_⟩
  have := Lib.data_getElem? s k hk
  rw [h] at this
  exact (Option.some.inj this).symm

def bsLen (l : List UInt8) : Nat := l.length

set_option maxHeartbeats 800000 in
set_option maxRecDepth 100000 in
theorem unquote_any (t s : ByteArray) (w : World) (hs : s.data.toList = 34 :: (esc t.data.toList ++ [34])) (ht : t.size ≤ 524288) :
    Calls Try.prog 26 #[.string s] w fun e w' => e = .returned (.tuple #[.string t, .bool true]) ∧ Below w.heap.size w w' := by
  have hel := esc_len t.data.toList
  rw [← Lib.size_eq] at hel
  have hsz : s.size = (esc t.data.toList).length + 2 := by rw [Lib.size_eq, hs]; simp
  obtain ⟨k0, h0⟩ := get_of_list (s := s) (k := 0) (c := 34) (by rw [hs]; rfl)
  obtain ⟨kl, hl⟩ := get_of_list (s := s) (k := s.size - 1) (c := 34) (by rw [hs, hsz]; simp)
  obtain ⟨u, hu⟩ : ∃ u, s.extract 1 (s.size - 1) = u := ⟨_, rfl⟩
  have hud : u.data.toList = esc t.data.toList := by
    rw [← hu, Lib.extract_data, hs, hsz]; simp
  have hus : u.size = (esc t.data.toList).length := by rw [Lib.size_eq, hud]
  have hs2 : 2 ≤ s.size := by omega
  have hsb : s.size ≤ 1048578 := by omega
  have hub : u.size ≤ 1048576 := by omega
  have HS : Hid (u.size = (esc t.data.toList).length) := hus
  clear hsz hus hel hs
  go_enter Try.func26, Try.ntmps26
  go_wp2_with (go_at_call 28; refine (contains_any _ _ (by omega)).mono ?_; rintro e w1 ⟨b, rfl, hb, hbel⟩; cases b)
  · go_ret2
    have hall := hb (by trivial)
    have e1 : u = t := ba_ext (by rw [hud]; exact esc_id _ (fun c hc => by have := hall c (by rw [hud]; exact hc); simp [special, this.1, this.2]))
    subst e1
    exact ⟨rfl, hbel⟩
  · clear hb h0 hl hu
    have hblk : (w1.alloc (Obj.cells #[Value.pointer none, Value.slice none 0 0] 40)).heap[w1.heap.size]? = some (.cells #[.pointer none, .slice none 0 0] 40 (0, 0)) := (MapKept.heap_alloc w1 _).1
    refine (Try.Builder_Grow_fresh w1.heap.size w1.heap.size u.size _ (Nat.le_refl _) hblk (by simp) (by omega)).mono ?_
    rintro e w2 ⟨rfl, hB2, hb2⟩
    have hb2' : Below w1.heap.size w1 w2 := ((Below.refl _ _).alloc (Nat.le_refl _) _).trans hb2
    clear hblk hb2
    go_wp2_with fail
    go_loopw [5] (fun i wr => ∃ k p : Nat, k ≤ t.size ∧ i = .int .i64 p ∧ p = (esc (t.data.toList.take k)).length ∧ Lib.IsBuilder 40 5 w1.heap.size w1.heap.size (byteCells (t.data.toList.take k)) wr ∧ Below w1.heap.size w1 wr) (fun i _ => u.size - (RowKit.intOf i).toNat)
    case atStart => exact ⟨0, 0, Nat.zero_le _, rfl, rfl, Or.inr hB2, hb2'⟩
    case round =>
      obtain ⟨k, p, hk, rfl, hp, hI, hbr⟩ := hrel
      have hsz := hbr.size
      by_cases hkt : k < t.size
      · obtain ⟨c, hc⟩ : ∃ c, t.data.toList[k]? = some c := ⟨_, Lib.data_getElem? t k hkt⟩
        have hlen : bsLen (t.data.toList.take k) ≤ 524288 := by unfold bsLen; rw [List.length_take]; omega
        have hX : Hid (byteCells (t.data.toList.take (k + 1)) = byteCells (t.data.toList.take k) ++ [.int .u8 c.toNat]) := by rw [take_snoc _ k c hc]; simp [byteCells, Hid]
        cases hsp : special c with
        | true =>
          obtain ⟨a1, a2, a3⟩ := at_yes _ k c hc hsp
          have hcs := special_cases hsp
          rw [← hp, ← hud] at a1 a2
          rw [← hp] at a3
          obtain ⟨hpu, hup⟩ := get_of_list a1
          obtain ⟨hpu1, hup1⟩ := get_of_list a2
          have H3 : Hid ((esc (t.data.toList.take (k + 1))).length = p + 2) := a3
          clear a1 a2 a3 hp hc hsp
          rcases hcs with h34 | h92
          · subst h34
            go_wp2_with (go_at_call 30; refine (Try.Builder_WriteByte w1.heap.size w1.heap.size _ _ _ hI (by rw [byteCells_length]; unfold bsLen at hlen; omega) hsz).mono ?_; rintro e w3 ⟨rfl, hB3, hb3⟩)
            go_roundw
            case rel => exact ⟨k + 1, p + 2, by omega, by go_num, H3.out.symm, by rw [hX.out]; exact Or.inr hB3, hbr.trans hb3⟩
            case measure => simp [RowKit.intOf]; omega
          · subst h92
            go_wp2_with (go_at_call 30; refine (Try.Builder_WriteByte w1.heap.size w1.heap.size _ _ _ hI (by rw [byteCells_length]; unfold bsLen at hlen; omega) hsz).mono ?_; rintro e w3 ⟨rfl, hB3, hb3⟩)
            go_roundw
            case rel => exact ⟨k + 1, p + 2, by omega, by go_num, H3.out.symm, by rw [hX.out]; exact Or.inr hB3, hbr.trans hb3⟩
            case measure => simp [RowKit.intOf]; omega
        | false =>
          obtain ⟨a1, a3⟩ := at_no _ k c hc hsp
          obtain ⟨n1, n2⟩ := special_not hsp
          have h34 : ((c.toNat : Int) == 34) = false := beq_eq_false_iff_ne.2 (fun h => n1 (UInt8.toNat_inj.1 (by have : (34 : UInt8).toNat = 34 := rfl; omega)))
          have h92 : ((c.toNat : Int) == 92) = false := beq_eq_false_iff_ne.2 (fun h => n2 (UInt8.toNat_inj.1 (by have : (92 : UInt8).toNat = 92 := rfl; omega)))
          rw [← hp, ← hud] at a1
          rw [← hp] at a3
          obtain ⟨hpu, hup⟩ := get_of_list a1
          have H3 : Hid ((esc (t.data.toList.take (k + 1))).length = p + 1) := a3
          clear a1 a3 hp hc hsp n1 n2
          go_wp2_with (go_at_call 30; refine (Try.Builder_WriteByte w1.heap.size w1.heap.size _ _ _ hI (by rw [byteCells_length]; unfold bsLen at hlen; omega) hsz).mono ?_; rintro e w3 ⟨rfl, hB3, hb3⟩)
          go_roundw
          case rel => exact ⟨k + 1, p + 1, by omega, by go_num, H3.out.symm, by rw [hX.out]; exact Or.inr hB3, hbr.trans hb3⟩
          case measure => simp [RowKit.intOf]; omega
      · obtain rfl : k = t.size := by omega
        rw [List.take_of_length_le (by rw [← Lib.size_eq]; exact Nat.le_refl _)] at hI hp
        have hpe : u.size ≤ p := by rw [hp, HS.out]; exact Nat.le_refl _
        clear hp
        go_wp2_with (go_at_call 31; refine (Try.Builder_String_any w1.heap.size w1.heap.size _ _ hI hsz).mono ?_; rintro e w3 ⟨rfl, hb3⟩)
        go_ret2
        exact ⟨rfl, hbel.trans ((hbr.trans hb3).mono hbel.size)⟩

/-- ZZunquote: unquote, handed on. -/
theorem zz_unquote : UnquoteSaid := by
  intro t s w hs ht
  go_enter Try.func18, Try.ntmps18
  go_wp2_with (go_at_call 26; refine (unquote_any t s _ hs ht).mono ?_; rintro e w1 ⟨rfl, hb⟩)
  go_ret2
  exact ⟨rfl, hb⟩

end Go.Proofs.Qxb6605562a.fnUnquoteInvertsEscape
