import Derived.Test.Qxb6606000aFmtFld
import Derived.Lib.SlBytesConst
namespace Go.Proofs.Qxb6606000aFmt.W
open Go.RowKit Go.Lib
open Plain
set_option linter.unusedVariables false
set_option linter.unusedSimpArgs false

theorem nonempty_of {s : ByteArray} (h : s.toList.isEmpty = false) : s.data.toList ≠ [] := by
  rw [Lib.toList_data] at h
  intro e
  rw [e] at h
  cases h

theorem plain_empty {s : ByteArray} (h : s.toList.isEmpty = true) : plain s.data.toList := by
  rw [Lib.toList_data, List.isEmpty_iff] at h
  rw [h]
  exact ⟨fun c hc => (by cases hc), fun c hc => (by cases hc)⟩

theorem size_pos {s : ByteArray} (h : s.toList.isEmpty = false) : 0 < s.size := by
  rw [size_eq]
  exact List.length_pos_iff.2 (nonempty_of h)

theorem bytes_lt {W : World} {g off : Nat} {l : List UInt8} (h : BytesAt g off l W) (hl : 0 < l.length) : g < W.heap.size :=
  World.block_lt_of_cell? W _ (h 0 _ (List.getElem?_eq_getElem hl))

/-- What is known of the line. -/
structure Tail (k x o : ByteArray) (l : List UInt8) (p : Nat) : Prop where
  ne10 : ∀ j, j < l.length → ∃ c, l[j]? = some c ∧ c ≠ 10
  no : ∀ i, i < p → ∃ j, j < 9 ∧ l[i + j]? ≠ key[j]?
  yes : ∀ j, j < 9 → l[p + j]? = key[j]?
  rest : ∀ j, l[p + 9 + j]? = o.data.toList[j]?
  ne32 : ∀ c ∈ o.data.toList, c ≠ 32

theorem tail_of {k x o : ByteArray} (hk : plain k.data.toList) (hx : plain x.data.toList) (ho : plain o.data.toList) :
    Tail k x o (line k.data.toList x.data.toList o.data.toList) (fore k.data.toList x.data.toList).length :=
  ⟨fun j hj => ⟨_, List.getElem?_eq_getElem hj, line_ten hk hx ho _ (List.getElem_mem hj)⟩, fun i hi => no_match hk hx i hi, fun j hj => at_match j hj, fun j => line_tail j, ho.1⟩

theorem fore_le {k x : ByteArray} (zk : k.size ≤ 262144) (zx : x.size ≤ 262144) : (fore k.data.toList x.data.toList).length ≤ 1000000 := by
  rw [size_eq] at zk zx
  unfold fore
  rw [List.length_append]
  split
  · simp only [List.length_nil]; omega
  · rw [List.length_append]; simp only [List.length_cons, List.length_nil]; omega

theorem bytes_own {W : World} {B g n c : Nat} {l : List UInt8} (h : W.ownsRow B 5 1 (.slice (some ⟨g, 0, none⟩) n c) n (byteCells l)) : BytesAt g 0 l W := by
  intro i d hd
  have := h.cells rfl i (.int .u8 d.toNat) (by unfold byteCells; rw [List.getElem?_map, hd]; rfl)
  rw [Addr.add_mid] at this
  exact this

set_option maxRecDepth 100000 in
set_option maxHeartbeats 2000000 in
theorem law_x (k x o : ByteArray) (w : World) (zk : k.size ≤ 262144) (zx : x.size ≤ 262144) (zo : o.size ≤ 262144) (hk0 : k.toList.isEmpty = false) (hx0 : x.toList.isEmpty = false) (ho0 : o.toList.isEmpty = false) :
    Calls Tryf.prog 4 #[.string k, .string x, .string o] w fun e w' => e = .returned (.bool true) ∧ Below w.heap.size w w' := by
  go_enter Tryf.func4, Tryf.ntmps4
  go_wp2_with fail
  go_at_call 19
  refine (zz_any k x o w (by unfold maxLen; omega) (by unfold maxLen; omega) (by unfold maxLen; omega)).mono ?_
  rintro e w' ⟨r, rfl, rfl, _⟩
  cases r with
  | false =>
    go_wp2
    go_ret
    exact ⟨rfl, Below.refl _ _⟩
  | true =>
  go_wp2_with fail
  go_at_call 9
  refine (plain_any k w (by omega)).mono ?_
  rintro e w' ⟨r, rfl, rfl, HK⟩
  cases r with
  | false =>
    clear HK
    go_wp2
    go_ret
    exact ⟨rfl, Below.refl _ _⟩
  | true =>
  have PK : Hid (plain k.data.toList) := HK rfl
  clear HK
  go_wp2_with fail
  go_at_call 9
  refine (plain_any x w (by omega)).mono ?_
  rintro e w' ⟨r, rfl, rfl, HX⟩
  cases r with
  | false =>
    clear HX
    go_wp2
    go_ret
    exact ⟨rfl, Below.refl _ _⟩
  | true =>
  have PX : Hid (plain x.data.toList) := HX rfl
  clear HX
  go_wp2_with fail
  go_at_call 9
  refine (plain_any o w (by omega)).mono ?_
  rintro e w' ⟨r, rfl, rfl, HO⟩
  cases r with
  | false =>
    clear HO
    go_wp2
    go_ret
    exact ⟨rfl, Below.refl _ _⟩
  | true =>
  have PO : Hid (plain o.data.toList) := HO rfl
  clear HO
  go_wp2_with fail
  go_at_call 20
  refine (zzreq_any (q := w.heap.size) (k := k) (x := x) (o := o) ⟨heap_alloc_new _ _⟩ PK.out PX.out PO.out (nonempty_of hk0) (nonempty_of ho0) (by omega) (by omega) (by omega)).mono ?_
  rintro e w2 ⟨g, cap, rfl, hb2, hO2⟩
  have T : Tail k x o (line k.data.toList x.data.toList o.data.toList) (fore k.data.toList x.data.toList).length := tail_of PK.out PX.out PO.out
  have hLn := line_len k.data.toList x.data.toList o.data.toList
  rw [hLn, ← size_eq] at hO2 ⊢
  have hB2 : BytesAt g 0 (line k.data.toList x.data.toList o.data.toList ++ [10]) w2 := bytes_own hO2
  have hgl := (hO2.lt g rfl).2
  obtain ⟨hc2, hm2⟩ := own_cap hO2
  have hp : (fore k.data.toList x.data.toList).length ≤ 1000000 := fore_le zk zx
  have hlen : Hid ((line k.data.toList x.data.toList o.data.toList).length = (fore k.data.toList x.data.toList).length + 9 + o.size) := by rw [size_eq]; exact hLn
  clear hO2 hLn
  obtain ⟨l, HL⟩ : ∃ l, Hid (line k.data.toList x.data.toList o.data.toList = l) := ⟨_, show line k.data.toList x.data.toList o.data.toList = _ from rfl⟩
  obtain ⟨p, HP⟩ : ∃ p, Hid ((fore k.data.toList x.data.toList).length = p) := ⟨_, show (fore k.data.toList x.data.toList).length = _ from rfl⟩
  rw [HL.out, HP.out] at T
  rw [HL.out] at hB2 hlen
  rw [HP.out] at hlen hc2 hp ⊢
  clear HL HP
  have hbel2 : Below w.heap.size w w2 := ((Below.refl _ _).alloc (Nat.le_refl _) _).trans (hb2.mono (by simp))
  clear hb2
  go_wp2_with fail
  go_loop [10, 11] (fun a i => ∃ j : Nat, j ≤ p + 9 + o.size ∧ a = .int .i64 (-1) ∧ i = .int .i64 j) (fun _ i => p + 9 + o.size - (RowKit.intOf i).toNat)
  case atStart => exact ⟨0, Nat.zero_le _, rfl, rfl⟩
  case round =>
    obtain ⟨j, hj, rfl, rfl⟩ := hrel
    have hji : (j : Int) < (p : Int) + 9 + (o.size : Int) + 1 := by omega
    by_cases hjl : j < p + 9 + o.size
    · obtain ⟨c, hc, hc10⟩ := T.ne10 j (by have := hlen.out; omega)
      have hcell : w2.cell? ⟨g, j, none⟩ = some (.int .u8 c.toNat) := by
        have := hB2 j c (by rw [List.getElem?_append_left (List.getElem?_eq_some_iff.1 hc).1]; exact hc)
        rwa [Nat.zero_add] at this
      have hne : ((c.toNat : Int) == 10) = false := beq_eq_false_iff_ne.2 (fun e => hc10 (UInt8.toNat_inj.1 (by simpa using Int.ofNat.inj e)))
      clear hc hc10
      go_wp2
      go_round
      case rel => exact ⟨j + 1, by omega, rfl, by go_num⟩
      case measure => simp [RowKit.intOf]; omega
    · obtain rfl : j = p + 9 + o.size := by omega
      have hcell : w2.cell? ⟨g, p + 9 + o.size, none⟩ = some (.int .u8 10) := by
        have := hB2 (p + 9 + o.size) 10 (by rw [List.getElem?_append_right (by have := hlen.out; omega), hlen.out, Nat.sub_self]; rfl)
        rwa [Nat.zero_add] at this
      have hBl : BytesAt g 0 l w2 := fun i c hc => hB2 i c (by rw [List.getElem?_append_left (List.getElem?_eq_some_iff.1 hc).1]; exact hc)
      have HT : Hid (Tail k x o l p) := T
      clear T hB2
      go_wp2_with fail
      refine (index_any g (p + 9 + o.size) cap p ⟨#[32, 111, 117, 116, 99, 111, 109, 101, 61]⟩ l w2 hlen.out (by omega) hBl (by show p + 9 ≤ _; omega) (by decide) HT.out.no HT.out.yes).mono ?_
      rintro e w3 ⟨rfl, hb3⟩
      have hB3 := hBl.below hb3 hgl
      have hgl3 := Nat.lt_of_lt_of_le hgl hb3.size
      have hbel3 := hbel2.trans (hb3.mono hbel2.size)
      clear hBl hcell hb3
      go_wp2_with fail
      go_loop [15] (fun v => ∃ j : Nat, j ≤ o.size ∧ v = .int .i64 ((p : Int) + 9 + j)) (fun v => p + 9 + o.size - (RowKit.intOf v).toNat)
      case atStart => exact ⟨0, Nat.zero_le _, by go_num⟩
      case round =>
        obtain ⟨j, hj, rfl⟩ := hrel
        by_cases hjo : j < o.size
        · have hjd : j < o.data.toList.length := by rw [← size_eq]; exact hjo
          obtain ⟨c, hc⟩ : ∃ c, o.data.toList[j]? = some c := ⟨_, List.getElem?_eq_getElem hjd⟩
          have hc32 := HT.out.ne32 c (List.mem_of_getElem? hc)
          have hcell : w3.cell? ⟨g, p + 9 + j, none⟩ = some (.int .u8 c.toNat) := by
            have := hB3 (p + 9 + j) c (by rw [HT.out.rest]; exact hc)
            rwa [Nat.zero_add] at this
          have hne : ((c.toNat : Int) == 32) = false := beq_eq_false_iff_ne.2 (fun e => hc32 (UInt8.toNat_inj.1 (by simpa using Int.ofNat.inj e)))
          have hlt : (p : Int) + 9 + (j : Int) < (p : Int) + 9 + (o.size : Int) := by omega
          clear hc hc32 hjd
          go_wp2
          go_round
          case rel => exact ⟨j + 1, by omega, by go_num⟩
          case measure => simp [RowKit.intOf]; omega
        · obtain rfl : j = o.size := by omega
          have hge : ¬ ((p : Int) + 9 + (o.size : Int) < (p : Int) + 9 + (o.size : Int)) := by omega
          have hB4' : BytesAt g (p + 9) o.data.toList w3 := fun i c hc => by
            have := hB3 (p + 9 + i) c (by rw [HT.out.rest]; exact hc)
            rwa [Nat.zero_add] at this
          have ho1 := size_pos ho0
          go_wp2_with fail
          refine (clone_any g (p + 9) o.size (cap - (p + 9)) o.data.toList w3 (size_eq o).symm (by omega) hB4').mono ?_
          rintro e w4 ⟨g4, rfl, hB4, hb4⟩
          have hbel4 := hbel3.trans (hb4.mono hbel3.size)
          have hg4 : g4 < w4.heap.size := bytes_lt hB4 (by rw [← size_eq]; exact ho1)
          clear hB4' hB3
          have kc := fun (W : World) (C : Array Value) (n c : Nat) => Lib.run_convert_bytes_const (P := Tryf.prog) W 22 5 C n c Tryf.underlying22 Tryf.underlying5
          have hb5 : ∀ ob : Obj, Below w4.heap.size w4 (w4.alloc ob) := fun ob => (Below.refl _ _).alloc (Nat.le_refl _) _
          go_wp2_with fail
          go_at_call 23
          refine (newField_any w4.heap.size 7 7 g4 o.size o.size _).mono ?_
          rintro e w5 ⟨rfl, hb5'⟩
          have hbA := (hb5 _).trans (hb5'.mono (hb5 _).size)
          have hB5 := hB4.below hbA hg4
          have hg5 := Nat.lt_of_lt_of_le hg4 hbA.size
          have hbel5 := hbel4.trans (hbA.mono hbel4.size)
          clear hb5 hb5' hB4 kc
          go_wp2_with fail
          go_at_call 22
          refine (zfout_any w4.heap.size 7 7 g4 o.size o.size o w5 hg5 hB5 rfl ho1).mono ?_
          rintro e w6 ⟨rfl, hb6⟩
          have hbel6 := hbel5.trans (hb6.mono hbel5.size)
          go_wp2
          go_ret
          exact ⟨rfl, hbel6⟩

set_option maxRecDepth 100000 in
set_option maxHeartbeats 2000000 in
theorem law_0 (k x o : ByteArray) (w : World) (zk : k.size ≤ 262144) (zx : x.size ≤ 262144) (zo : o.size ≤ 262144) (hk0 : k.toList.isEmpty = false) (hx0 : x.toList.isEmpty = true) (ho0 : o.toList.isEmpty = false) :
    Calls Tryf.prog 4 #[.string k, .string x, .string o] w fun e w' => e = .returned (.bool true) ∧ Below w.heap.size w w' := by
  go_enter Tryf.func4, Tryf.ntmps4
  go_wp2_with fail
  go_at_call 19
  refine (zz_any k x o w (by unfold maxLen; omega) (by unfold maxLen; omega) (by unfold maxLen; omega)).mono ?_
  rintro e w' ⟨r, rfl, rfl, _⟩
  cases r with
  | false =>
    go_wp2
    go_ret
    exact ⟨rfl, Below.refl _ _⟩
  | true =>
  go_wp2_with fail
  go_at_call 9
  refine (plain_any k w (by omega)).mono ?_
  rintro e w' ⟨r, rfl, rfl, HK⟩
  cases r with
  | false =>
    clear HK
    go_wp2
    go_ret
    exact ⟨rfl, Below.refl _ _⟩
  | true =>
  have PK : Hid (plain k.data.toList) := HK rfl
  clear HK
  have PX : Hid (plain x.data.toList) := plain_empty hx0
  go_wp2_with fail
  go_at_call 9
  refine (plain_any o w (by omega)).mono ?_
  rintro e w' ⟨r, rfl, rfl, HO⟩
  cases r with
  | false =>
    clear HO
    go_wp2
    go_ret
    exact ⟨rfl, Below.refl _ _⟩
  | true =>
  have PO : Hid (plain o.data.toList) := HO rfl
  clear HO
  go_wp2_with fail
  go_at_call 20
  refine (zzreq_any (q := w.heap.size) (k := k) (x := x) (o := o) ⟨heap_alloc_new _ _⟩ PK.out PX.out PO.out (nonempty_of hk0) (nonempty_of ho0) (by omega) (by omega) (by omega)).mono ?_
  rintro e w2 ⟨g, cap, rfl, hb2, hO2⟩
  have T : Tail k x o (line k.data.toList x.data.toList o.data.toList) (fore k.data.toList x.data.toList).length := tail_of PK.out PX.out PO.out
  have hLn := line_len k.data.toList x.data.toList o.data.toList
  rw [hLn, ← size_eq] at hO2 ⊢
  have hB2 : BytesAt g 0 (line k.data.toList x.data.toList o.data.toList ++ [10]) w2 := bytes_own hO2
  have hgl := (hO2.lt g rfl).2
  obtain ⟨hc2, hm2⟩ := own_cap hO2
  have hp : (fore k.data.toList x.data.toList).length ≤ 1000000 := fore_le zk zx
  have hlen : Hid ((line k.data.toList x.data.toList o.data.toList).length = (fore k.data.toList x.data.toList).length + 9 + o.size) := by rw [size_eq]; exact hLn
  clear hO2 hLn
  obtain ⟨l, HL⟩ : ∃ l, Hid (line k.data.toList x.data.toList o.data.toList = l) := ⟨_, show line k.data.toList x.data.toList o.data.toList = _ from rfl⟩
  obtain ⟨p, HP⟩ : ∃ p, Hid ((fore k.data.toList x.data.toList).length = p) := ⟨_, show (fore k.data.toList x.data.toList).length = _ from rfl⟩
  rw [HL.out, HP.out] at T
  rw [HL.out] at hB2 hlen
  rw [HP.out] at hlen hc2 hp ⊢
  clear HL HP
  have hbel2 : Below w.heap.size w w2 := ((Below.refl _ _).alloc (Nat.le_refl _) _).trans (hb2.mono (by simp))
  clear hb2
  go_wp2_with fail
  go_loop [10, 11] (fun a i => ∃ j : Nat, j ≤ p + 9 + o.size ∧ a = .int .i64 (-1) ∧ i = .int .i64 j) (fun _ i => p + 9 + o.size - (RowKit.intOf i).toNat)
  case atStart => exact ⟨0, Nat.zero_le _, rfl, rfl⟩
  case round =>
    obtain ⟨j, hj, rfl, rfl⟩ := hrel
    have hji : (j : Int) < (p : Int) + 9 + (o.size : Int) + 1 := by omega
    by_cases hjl : j < p + 9 + o.size
    · obtain ⟨c, hc, hc10⟩ := T.ne10 j (by have := hlen.out; omega)
      have hcell : w2.cell? ⟨g, j, none⟩ = some (.int .u8 c.toNat) := by
        have := hB2 j c (by rw [List.getElem?_append_left (List.getElem?_eq_some_iff.1 hc).1]; exact hc)
        rwa [Nat.zero_add] at this
      have hne : ((c.toNat : Int) == 10) = false := beq_eq_false_iff_ne.2 (fun e => hc10 (UInt8.toNat_inj.1 (by simpa using Int.ofNat.inj e)))
      clear hc hc10
      go_wp2
      go_round
      case rel => exact ⟨j + 1, by omega, rfl, by go_num⟩
      case measure => simp [RowKit.intOf]; omega
    · obtain rfl : j = p + 9 + o.size := by omega
      have hcell : w2.cell? ⟨g, p + 9 + o.size, none⟩ = some (.int .u8 10) := by
        have := hB2 (p + 9 + o.size) 10 (by rw [List.getElem?_append_right (by have := hlen.out; omega), hlen.out, Nat.sub_self]; rfl)
        rwa [Nat.zero_add] at this
      have hBl : BytesAt g 0 l w2 := fun i c hc => hB2 i c (by rw [List.getElem?_append_left (List.getElem?_eq_some_iff.1 hc).1]; exact hc)
      have HT : Hid (Tail k x o l p) := T
      clear T hB2
      go_wp2_with fail
      refine (index_any g (p + 9 + o.size) cap p ⟨#[32, 111, 117, 116, 99, 111, 109, 101, 61]⟩ l w2 hlen.out (by omega) hBl (by show p + 9 ≤ _; omega) (by decide) HT.out.no HT.out.yes).mono ?_
      rintro e w3 ⟨rfl, hb3⟩
      have hB3 := hBl.below hb3 hgl
      have hgl3 := Nat.lt_of_lt_of_le hgl hb3.size
      have hbel3 := hbel2.trans (hb3.mono hbel2.size)
      clear hBl hcell hb3
      go_wp2_with fail
      go_loop [15] (fun v => ∃ j : Nat, j ≤ o.size ∧ v = .int .i64 ((p : Int) + 9 + j)) (fun v => p + 9 + o.size - (RowKit.intOf v).toNat)
      case atStart => exact ⟨0, Nat.zero_le _, by go_num⟩
      case round =>
        obtain ⟨j, hj, rfl⟩ := hrel
        by_cases hjo : j < o.size
        · have hjd : j < o.data.toList.length := by rw [← size_eq]; exact hjo
          obtain ⟨c, hc⟩ : ∃ c, o.data.toList[j]? = some c := ⟨_, List.getElem?_eq_getElem hjd⟩
          have hc32 := HT.out.ne32 c (List.mem_of_getElem? hc)
          have hcell : w3.cell? ⟨g, p + 9 + j, none⟩ = some (.int .u8 c.toNat) := by
            have := hB3 (p + 9 + j) c (by rw [HT.out.rest]; exact hc)
            rwa [Nat.zero_add] at this
          have hne : ((c.toNat : Int) == 32) = false := beq_eq_false_iff_ne.2 (fun e => hc32 (UInt8.toNat_inj.1 (by simpa using Int.ofNat.inj e)))
          have hlt : (p : Int) + 9 + (j : Int) < (p : Int) + 9 + (o.size : Int) := by omega
          clear hc hc32 hjd
          go_wp2
          go_round
          case rel => exact ⟨j + 1, by omega, by go_num⟩
          case measure => simp [RowKit.intOf]; omega
        · obtain rfl : j = o.size := by omega
          have hge : ¬ ((p : Int) + 9 + (o.size : Int) < (p : Int) + 9 + (o.size : Int)) := by omega
          have hB4' : BytesAt g (p + 9) o.data.toList w3 := fun i c hc => by
            have := hB3 (p + 9 + i) c (by rw [HT.out.rest]; exact hc)
            rwa [Nat.zero_add] at this
          have ho1 := size_pos ho0
          go_wp2_with fail
          refine (clone_any g (p + 9) o.size (cap - (p + 9)) o.data.toList w3 (size_eq o).symm (by omega) hB4').mono ?_
          rintro e w4 ⟨g4, rfl, hB4, hb4⟩
          have hbel4 := hbel3.trans (hb4.mono hbel3.size)
          have hg4 : g4 < w4.heap.size := bytes_lt hB4 (by rw [← size_eq]; exact ho1)
          clear hB4' hB3
          have kc := fun (W : World) (C : Array Value) (n c : Nat) => Lib.run_convert_bytes_const (P := Tryf.prog) W 22 5 C n c Tryf.underlying22 Tryf.underlying5
          have hb5 : ∀ ob : Obj, Below w4.heap.size w4 (w4.alloc ob) := fun ob => (Below.refl _ _).alloc (Nat.le_refl _) _
          go_wp2_with fail
          go_at_call 23
          refine (newField_any w4.heap.size 7 7 g4 o.size o.size _).mono ?_
          rintro e w5 ⟨rfl, hb5'⟩
          have hbA := (hb5 _).trans (hb5'.mono (hb5 _).size)
          have hB5 := hB4.below hbA hg4
          have hg5 := Nat.lt_of_lt_of_le hg4 hbA.size
          have hbel5 := hbel4.trans (hbA.mono hbel4.size)
          clear hb5 hb5' hB4 kc
          go_wp2_with fail
          go_at_call 22
          refine (zfout_any w4.heap.size 7 7 g4 o.size o.size o w5 hg5 hB5 rfl ho1).mono ?_
          rintro e w6 ⟨rfl, hb6⟩
          have hbel6 := hbel5.trans (hb6.mono hbel5.size)
          go_wp2
          go_ret
          exact ⟨rfl, hbel6⟩

end Go.Proofs.Qxb6606000aFmt.W
