import Derived.Test.Qxb6605763aDoorRows
import Derived.Test.Qxb6605763aDoorPlain
import Derived.WalkKit
import Derived.WalkSpells
import Derived.Laws.BitsAllLaws
import Derived.Lib.ConvBytes
import Derived.Lib.IndexBytes
import Derived.Deep.OwnRows
import Derived.Laws.IdiomStrings
import Derived.Lib.HexFns
namespace Go.Proofs.Qxb6605763aDoor.W
open Go.RowKit
open Plain

/-- net/url.table lies in its block as the program's text lays it. -/
def Tab (w : World) : Prop := ∀ i, i < 256 → w.cell? ⟨0, i, none⟩ = some (.int .u8 (tab.getD i 0))

theorem Tab.below {w w' : World} {B : Nat} (h : Tab w) (hb : Below B w w') (hB : 0 < B) : Tab w' := fun i hi => (hb.cell (p := ⟨0, i, none⟩) hB).trans (h i hi)

theorem ret_bool {a b : Bool} (h : a = b) : Ending.returned (.bool a) = .returned (.bool b) := by rw [h]
theorem ret_str {s : ByteArray} {l : List UInt8} (h : l = s.data.toList) : Ending.returned (.string s) = .returned (.string ⟨l.toArray⟩) := by subst h; rfl

set_option maxRecDepth 10000 in
theorem tab_lt : ∀ i, tab.getD i 0 < 256 := by
  intro i
  have hall : ∀ x ∈ tab, x < 256 := by decide
  rw [List.getD_eq_getElem?_getD]
  cases h : tab[i]? with
  | none => decide
  | some x => exact hall x (List.mem_of_getElem? h)

theorem should_any (c : UInt8) (m : Nat) (w : World) (hm : m < 256) (ht : Tab w) :
    Calls Tryd.prog 37 #[.int .u8 c.toNat, .int .u8 m] w fun e w' => e = .returned (.bool (need m c)) ∧ w = w' := by
  have hc := c.toNat_lt
  have hcell := ht c.toNat hc
  have hl := tab_lt c.toNat
  have hb : bits .and .u8 ((tab.getD c.toNat 0 : Nat) : Int) (m : Int) = ((tab.getD c.toNat 0 &&& m : Nat) : Int) := u8_and_nat _ _ hl hm
  obtain ⟨v, hv⟩ : ∃ v, tab.getD c.toNat 0 = v := ⟨_, rfl⟩
  have hn : need m c = ((v &&& m) == 0) := by unfold need; rw [hv]
  rw [hv] at hcell hb
  rw [hn]
  clear hn hl hv ht
  go_enter Tryd.func37, Tryd.ntmps37
  go_wp2
  go_ret
  exact ⟨ret_bool (by rw [Bool.eq_iff_iff, beq_iff_eq, beq_iff_eq]; omega), rfl⟩

theorem Tab.grown {w w' : World} {b : Nat} (h : Tab w) (hg : w.grownBy w' (some b)) (hb : b ≠ 0) : Tab w' := fun i hi => hg.cell (h i hi) (by simp; omega)

/-- The upper-case digits, as the program's text holds them. -/
def hexS : ByteArray := ⟨#[48, 49, 50, 51, 52, 53, 54, 55, 56, 57, 65, 66, 67, 68, 69, 70]⟩
theorem hexS_at (n : Nat) (h : n < hexS.size) : hexS[n] = hexd n := by
  have : ∀ i : Fin 16, ∀ h : i.val < hexS.size, hexS[i.val] = hexd i.val := by decide
  exact this ⟨n, h⟩ h

/-- What a row that is filled from its head holds so far. -/
def Filled (f : Nat → Value) (l : List UInt8) : Prop := ∀ i, i < l.length → f i = .int .u8 ((l.getD i 0).toNat : Nat)

theorem Filled.nil (f : Nat → Value) : Filled f [] := fun i hi => absurd hi (Nat.not_lt_zero i)

theorem Filled.one {f : Nat → Value} {l : List UInt8} (h : Filled f l) (c : UInt8) : Filled (fun j => if j = l.length then .int .u8 (c.toNat : Nat) else f j) (l ++ [c]) := by
  intro i hi
  rw [List.length_append, List.length_singleton] at hi
  by_cases e : i = l.length
  · subst e; simp
  · have hlt : i < l.length := by omega
    simp only [e, if_false]
    rw [h i hlt]
    simp [List.getD, List.getElem?_append_left hlt]

theorem hexL_at (n : Nat) (h : n < ({ data := #[48, 49, 50, 51, 52, 53, 54, 55, 56, 57, 65, 66, 67, 68, 69, 70] } : ByteArray).size) : ({ data := #[48, 49, 50, 51, 52, 53, 54, 55, 56, 57, 65, 66, 67, 68, 69, 70] } : ByteArray)[n] = hexd n := hexS_at n h

theorem dig_val (n : Nat) (h : n < ({ data := #[48, 49, 50, 51, 52, 53, 54, 55, 56, 57, 65, 66, 67, 68, 69, 70] } : ByteArray).size) : Value.int .u8 ((({ data := #[48, 49, 50, 51, 52, 53, 54, 55, 56, 57, 65, 66, 67, 68, 69, 70] } : ByteArray)[n]'h).toNat : Nat) = .int .u8 ((hexd n).toNat : Nat) := by rw [hexL_at]

theorem step1 {wr : World} {b T N : Nat} {f : Nat → Value} {l : List UInt8} (h : wr.rowIs b T N f ∧ Filled f l) (j : Nat) (hj : j = l.length) (v : Value) (c : UInt8) (hv : v = .int .u8 (c.toNat : Nat)) :
    ∃ f', (wr.setCell ⟨b, j, none⟩ v).rowIs b T N f' ∧ Filled f' (l ++ [c]) := by
  subst hj hv
  exact ⟨_, h.1.set _ _, h.2.one c⟩

theorem step3 {wr : World} {b T N : Nat} {f : Nat → Value} {l : List UInt8} (h : wr.rowIs b T N f ∧ Filled f l) (j : Nat) (hj : j = l.length) (v1 v2 : Value) (c : UInt8)
    (h1 : v1 = .int .u8 ((hexd (c.toNat / 16)).toNat : Nat)) (h2 : v2 = .int .u8 ((hexd (c.toNat % 16)).toNat : Nat)) :
    ∃ f', (((wr.setCell ⟨b, j, none⟩ (.int .u8 37)).setCell ⟨b, j + 1, none⟩ v1).setCell ⟨b, j + 2, none⟩ v2).rowIs b T N f' ∧ Filled f' (l ++ [37, hexd (c.toNat / 16), hexd (c.toNat % 16)]) := by
  obtain ⟨f1, g1⟩ := step1 h j hj (.int .u8 37) 37 rfl
  obtain ⟨f2, g2⟩ := step1 g1 (j + 1) (by rw [hj]; simp) v1 _ h1
  obtain ⟨f3, g3⟩ := step1 g2 (j + 2) (by rw [hj]; simp) v2 _ h2
  refine ⟨f3, g3.1, ?_⟩
  have := g3.2
  simpa using this

theorem conv_row {w : World} {b T N : Nat} {f : Nat → Value} {l : List UInt8} (h : w.rowIs b T N f) (hf : Filled f l) (hl : l.length ≤ N) (cap : Nat) :
    (convert 44 9 (.slice (some ⟨b, 0, none⟩) l.length cap)).run Tryd.prog w = .ok (.string ⟨l.toArray⟩) w := by
  refine run_convert_bytes_back w 44 9 5 ⟨b, 0, none⟩ cap l Tryd.underlying44 Tryd.underlying5 Tryd.underlying9 (fun j hj => ?_)
  have ha : (⟨b, 0, none⟩ : Addr).add j = ⟨b, j, none⟩ := by unfold Addr.add; split <;> simp_all
  rw [ha, h.cell (by omega), hf j hj]
  simp [List.getD, hj]

theorem slice64 (R : Nat) (hR : R ≤ 64) (x : Int) (hx : x = (R : Int)) (b : Nat) (w : World) : (Instr.sliceAt 61 (.pointer (some ⟨b, 0, none⟩)) none (some (.int .i64 x)) none).run Tryd.prog w = .ok (.slice (some ⟨b, 0, none⟩) R 64) w := by
  have hal : Tryd.prog.arrayLen 61 = 64 := by kernel_rfl
  have hel : Tryd.prog.elem 61 = 5 := by kernel_rfl
  subst hx
  rw [run_sliceAt_array_h w 61 ⟨b, 0, none⟩ (by rw [hal, hel]; exact Tryd.underlying61) .i64 (R : Int) (by omega) (by rw [hal]; omega), hel, Tryd.sizeOf5]
  simp [Result.andThen, slicedAt, hal, Addr.add]

/-- What the second conversion leaves: one block more, the bytes in it. -/
theorem conv_world (W : World) (s : ByteArray) : Below W.heap.size W (Lib.bytesWorld W 5 s) ∧ (Lib.bytesWorld W 5 s).heap.size = W.heap.size + 1 ∧
    (∀ k, k < s.size → (Lib.bytesWorld W 5 s).cell? ⟨W.heap.size, k, none⟩ = some (.int .u8 (s.data.toList.getD k 0).toNat)) :=
  ⟨⟨rfl, rfl, rfl, by rw [Lib.bytesWorld_size]; omega, fun k hk => Lib.bytesWorld_at_old W 5 s k hk⟩, Lib.bytesWorld_size W 5 s, fun k hk => Lib.bytesWorld_cell W 5 s k hk⟩

theorem zeros64 (z : Array Value) (hz : z = Array.replicate 64 (.int .u8 0)) (w : World) : (w.alloc (.cells z 61)).rowIs w.heap.size 61 64 (fun _ => .int .u8 0) := by
  have := World.rowIs_alloc w z 61 (fun _ => .int .u8 0) (fun i hi => by subst hz; simp at hi; simp [hi])
  rwa [show z.size = 64 by subst hz; simp] at this

theorem should_int (n : Int) (c : UInt8) (m : Nat) (w : World) (hn : n = c.toNat) (hm : m < 256) (ht : Tab w) :
    Calls Tryd.prog 37 #[.int .u8 n, .int .u8 m] w fun e w' => e = .returned (.bool (need m c)) ∧ w = w' := by
  subst hn; exact should_any c m w hm ht

theorem Tryd.info5 : (Tryd.prog.info? 5).map (fun i => (i.zero, i.size, i.bytes)) = some (some (.int .u8 0), 1, 1) := by kernel_rfl

set_option maxHeartbeats 800000 in
set_option maxRecDepth 100000 in
theorem escape_any (s : ByteArray) (m : Nat) (w : World) (hm : m < 256) (hm32 : m ≠ 32) (ht : Tab w) (h0 : 0 < w.heap.size) (hs : s.size ≤ 1048576) :
    Calls Tryd.prog 26 #[.string s, .int .u8 m] w fun e w' => e = .returned (.string ⟨(esc m s.data.toList).toArray⟩) ∧ Below w.heap.size w w' := by
  have hmb : ((m : Int) == 32) = false := beq_eq_false_iff_ne.2 (by omega)
  have hcv := Lib.run_convert_string_bytes (P := Tryd.prog) w 9 44 5 s Tryd.underlying9 Tryd.underlying44 Tryd.underlying5
  have hB1 : Below w.heap.size w (Lib.bytesWorld w 5 s) := ⟨rfl, rfl, rfl, by rw [Lib.bytesWorld_size]; omega, fun k hk => Lib.bytesWorld_at_old w 5 s k hk⟩
  have hc1 : ∀ k, k < s.size → (Lib.bytesWorld w 5 s).cell? ⟨w.heap.size, k, none⟩ = some (.int .u8 (s.data.toList.getD k 0).toNat) := fun k hk => Lib.bytesWorld_cell w 5 s k hk
  have hz1 : (Lib.bytesWorld w 5 s).heap.size = w.heap.size + 1 := Lib.bytesWorld_size w 5 s
  generalize Lib.bytesWorld w 5 s = w1 at *
  generalize grownCap w s.size 0 5 = cp at *
  have ht1 : Tab w1 := ht.below hB1 h0
  have HC1 : Hid (∀ k, k < s.size → w1.cell? ⟨w.heap.size, k, none⟩ = some (.int .u8 (s.data.toList.getD k 0).toNat)) := hc1
  clear hc1
  go_enter Tryd.func26, Tryd.ntmps26
  go_wp2_with fail
  go_loop [5, 6, 8, 19] (fun sc hc _ i => ∃ k : Nat, k ≤ s.size ∧ i = .int .i64 k ∧ sc = .int .i64 0 ∧ hc = .int .i64 (hexn m (s.data.toList.take k))) (fun _ _ _ i => s.size - (intOf i).toNat)
  case atStart => exact ⟨0, Nat.zero_le _, rfl, rfl, rfl⟩
  case round =>
    obtain ⟨k, hk, rfl, rfl, rfl⟩ := hrel
    have hle := hexn_le m (s.data.toList.take k)
    rw [List.length_take] at hle
    by_cases hkt : k < s.size
    · obtain ⟨c, hcl⟩ : ∃ c, s.data.toList[k]? = some c := ⟨_, Lib.data_getElem? s k hkt⟩
      have hcell : w1.cell? ⟨w.heap.size, k, none⟩ = some (.int .u8 c.toNat) := by rw [HC1.out k hkt]; simp [List.getD, hcl]
      have HX : Hid (hexn m (s.data.toList.take (k + 1)) = hexn m (s.data.toList.take k) + (if need m c then 1 else 0)) := hexn_snoc m _ k c hcl
      clear hcl
      cases hn : need m c with
      | true =>
        cases h32 : ((c.toNat : Int) == 32) with
        | true =>
          go_wp2_with (go_at_call 37; refine (should_any c m _ hm ht1).mono ?_; rintro e w' ⟨rfl, rfl⟩; rw [hn])
          go_round
          case rel => exact ⟨k + 1, by omega, by go_num, rfl, by rw [HX.out, hn]; go_num⟩
          case measure => simp [intOf]; omega
        | false =>
          go_wp2_with (go_at_call 37; refine (should_any c m _ hm ht1).mono ?_; rintro e w' ⟨rfl, rfl⟩; rw [hn])
          go_round
          case rel => exact ⟨k + 1, by omega, by go_num, rfl, by rw [HX.out, hn]; go_num⟩
          case measure => simp [intOf]; omega
      | false =>
        go_wp2_with (go_at_call 37; refine (should_any c m _ hm ht1).mono ?_; rintro e w' ⟨rfl, rfl⟩; rw [hn])
        go_round
        case rel => exact ⟨k + 1, by omega, by go_num, rfl, by rw [HX.out, hn]; go_num⟩
        case measure => simp [intOf]; omega
    · obtain rfl : k = s.size := by omega
      rw [List.take_of_length_le (by rw [← Lib.size_eq]; exact Nat.le_refl _)] at hle ⊢
      have HL : Hid ((esc m s.data.toList).length = s.data.toList.length + 2 * hexn m s.data.toList) := esc_length m _
      by_cases hh0 : hexn m s.data.toList = 0
      · have hb0 : ((hexn m s.data.toList : Int) == 0) = true := beq_iff_eq.2 (by omega)
        have HE : Hid (esc m s.data.toList = s.data.toList) := esc_same m _ hh0
        clear hh0
        go_wp2_with fail
        go_ret
        exact ⟨ret_str HE.out, hB1⟩
      · have hb0 : ((hexn m s.data.toList : Int) == 0) = false := beq_eq_false_iff_ne.2 (by omega)
        generalize hexn m s.data.toList = H at *
        by_cases h64 : s.size + 2 * H ≤ 64
        · have hsl := fun (b : Nat) (w : World) => slice64 (s.size + 2 * H) h64 ((s.size : Int) + 2 * (H : Int)) (by omega) b w
          have hcvg := fun W : World => Lib.run_convert_string_bytes (P := Tryd.prog) W 9 44 5 s Tryd.underlying9 Tryd.underlying44 Tryd.underlying5
          go_wp2_with fail
          generalize hzz : (#[Value.int IntKind.u8 0, Value.int IntKind.u8 0, Value.int IntKind.u8 0, Value.int IntKind.u8 0, Value.int IntKind.u8 0, Value.int IntKind.u8 0, Value.int IntKind.u8 0, Value.int IntKind.u8 0, Value.int IntKind.u8 0, Value.int IntKind.u8 0, Value.int IntKind.u8 0, Value.int IntKind.u8 0, Value.int IntKind.u8 0, Value.int IntKind.u8 0, Value.int IntKind.u8 0, Value.int IntKind.u8 0, Value.int IntKind.u8 0, Value.int IntKind.u8 0, Value.int IntKind.u8 0, Value.int IntKind.u8 0, Value.int IntKind.u8 0, Value.int IntKind.u8 0, Value.int IntKind.u8 0, Value.int IntKind.u8 0, Value.int IntKind.u8 0, Value.int IntKind.u8 0, Value.int IntKind.u8 0, Value.int IntKind.u8 0, Value.int IntKind.u8 0, Value.int IntKind.u8 0, Value.int IntKind.u8 0, Value.int IntKind.u8 0, Value.int IntKind.u8 0, Value.int IntKind.u8 0, Value.int IntKind.u8 0, Value.int IntKind.u8 0, Value.int IntKind.u8 0, Value.int IntKind.u8 0, Value.int IntKind.u8 0, Value.int IntKind.u8 0, Value.int IntKind.u8 0, Value.int IntKind.u8 0, Value.int IntKind.u8 0, Value.int IntKind.u8 0, Value.int IntKind.u8 0, Value.int IntKind.u8 0, Value.int IntKind.u8 0, Value.int IntKind.u8 0, Value.int IntKind.u8 0, Value.int IntKind.u8 0, Value.int IntKind.u8 0, Value.int IntKind.u8 0, Value.int IntKind.u8 0, Value.int IntKind.u8 0, Value.int IntKind.u8 0, Value.int IntKind.u8 0, Value.int IntKind.u8 0, Value.int IntKind.u8 0, Value.int IntKind.u8 0, Value.int IntKind.u8 0, Value.int IntKind.u8 0, Value.int IntKind.u8 0, Value.int IntKind.u8 0, Value.int IntKind.u8 0] : Array Value) = z64
          have hr2 := zeros64 z64 (by rw [← hzz]; rfl) w1
          have hb2 : Below w.heap.size w (w1.alloc (.cells z64 61)) := hB1.alloc (by omega) _
          have hs2 : (w1.alloc (.cells z64 61)).heap.size = w.heap.size + 1 + 1 := by simp; omega
          generalize w1.alloc (.cells z64 61) = W2 at *
          obtain ⟨hb3, hs3, hc3⟩ := conv_world W2 s
          have hrx : (Lib.bytesWorld W2 5 s).rowIs (w.heap.size + 1) 61 64 (fun _ => .int .u8 0) := by
            rw [hz1] at hr2; exact hr2.of_block (hb3.block _ (by omega))
          have hBx := hb2.trans (hb3.mono (by omega))
          rw [hs2] at hc3
          generalize Lib.bytesWorld W2 5 s = Wx at *
          have HCx : Hid (∀ k, k < s.size → Wx.cell? ⟨w.heap.size + 1 + 1, k, none⟩ = some (.int .u8 (s.data.toList.getD k 0).toNat)) := hc3
          have htx : Tab Wx := ht.below hBx h0
          clear hc3 hr2 hsl hcvg hcv HC1
          go_loopw [13, 15, 78] (fun vj _ vi wr => ∃ (k j : Nat) (f : Nat → Value), k ≤ s.size ∧ vi = .int .i64 k ∧ vj = .int .i64 j ∧ Hid (j = (esc m (s.data.toList.take k)).length) ∧ Hid (wr.rowIs (w.heap.size + 1) 61 64 f ∧ Filled f (esc m (s.data.toList.take k))) ∧ Hid (Wx.grownBy wr (some ((w.heap.size + 1))))) (fun _ _ vi _ => s.size - (intOf vi).toNat)
          case atStart => exact ⟨0, 0, _, Nat.zero_le _, rfl, rfl, rfl, ⟨hrx, Filled.nil _⟩, Lib.Hx.grownBy_refl _ _⟩
          case round =>
            obtain ⟨k, j, f, hk', rfl, rfl, Hj, Hr, Hg⟩ := hrel
            by_cases hkt' : k < s.size
            · obtain ⟨c, hcl⟩ : ∃ c, s.data.toList[k]? = some c := ⟨_, Lib.data_getElem? s k hkt'⟩
              have hcell : wr.cell? ⟨w.heap.size + 1 + 1, k, none⟩ = some (.int .u8 c.toNat) := by
                refine Hg.out.cell ?_ (by simp)
                rw [HCx.out k hkt']; simp [List.getD, hcl]
              have htr : Tab wr := htx.grown Hg.out (by omega)
              have hes := esc_snoc m s.data.toList k c hcl
              have hel := esc_take_le m s.data.toList (k + 1)
              rw [hes, List.length_append, ← Hj.out, HL.out, ← Lib.size_eq] at hel
              have hc8 := c.toNat_lt
              have hf1 : wr.frozen? ⟨(w.heap.size + 1), j, none⟩ = false := Hr.out.1.frozen _
              have X : Hid (esc m (s.data.toList.take (k + 1)) = esc m (s.data.toList.take k) ++ esc1 m c) := hes
              clear hes hcl
              by_cases hc32 : c = 32
              · subst hc32
                cases hn : need m 32 with
                | true =>
                  rw [esc1_yes hn] at hel
                  simp only [List.length_cons, List.length_nil] at hel
                  have hcj : wr.cell? ⟨(w.heap.size + 1), j, none⟩ = some (f j) := Hr.out.1.cell (by omega)
                  have hf2 : ∀ v, (wr.setCell ⟨(w.heap.size + 1), j, none⟩ v).frozen? ⟨(w.heap.size + 1), j + 1, none⟩ = false := fun v => (Hr.out.1.set _ v).frozen _
                  have hc2 : ∀ v, (wr.setCell ⟨(w.heap.size + 1), j, none⟩ v).cell? ⟨(w.heap.size + 1), j + 1, none⟩ = some (f (j + 1)) := fun v => by
                    have := (Hr.out.1.set j v).cell (i := j + 1) (by omega)
                    rwa [if_neg (by omega)] at this
                  have hf3 : ∀ v u, ((wr.setCell ⟨(w.heap.size + 1), j, none⟩ v).setCell ⟨(w.heap.size + 1), j + 1, none⟩ u).frozen? ⟨(w.heap.size + 1), j + 2, none⟩ = false := fun v u => ((Hr.out.1.set _ v).set _ u).frozen _
                  have hc3 : ∀ v u, ((wr.setCell ⟨(w.heap.size + 1), j, none⟩ v).setCell ⟨(w.heap.size + 1), j + 1, none⟩ u).cell? ⟨(w.heap.size + 1), j + 2, none⟩ = some (f (j + 2)) := fun v u => by
                    have := ((Hr.out.1.set j v).set (j + 1) u).cell (i := j + 2) (by omega)
                    rwa [if_neg (by omega), if_neg (by omega)] at this
                  go_wp2_with (go_at_call 37; refine (should_int _ 32 m _ rfl hm htr).mono ?_; rintro e w' ⟨rfl, rfl⟩; rw [hn])
                  go_roundw
                  case rel =>
                    obtain ⟨f', hr', hf'⟩ := step3 Hr.out j Hj.out _ _ 32 rfl rfl
                    exact ⟨k + 1, j + 3, f', by omega, by go_num, by go_num, by show _ = _; rw [X.out, esc1_yes hn, List.length_append, ← Hj.out]; rfl, ⟨hr', by rw [X.out, esc1_yes hn]; exact hf'⟩, Lib.Hx.grownBy_set (Lib.Hx.grownBy_set (Lib.Hx.grownBy_set Hg.out _ rfl _) _ rfl _) _ rfl _⟩
                  case measure => simp [intOf]; omega
                | false =>
                  rw [esc1_no hn] at hel
                  simp only [List.length_cons, List.length_nil] at hel
                  have hcj : wr.cell? ⟨(w.heap.size + 1), j, none⟩ = some (f j) := Hr.out.1.cell (by omega)
                  go_wp2_with (go_at_call 37; refine (should_int _ 32 m _ rfl hm htr).mono ?_; rintro e w' ⟨rfl, rfl⟩; rw [hn])
                  go_roundw
                  case rel =>
                    obtain ⟨f', hr', hf'⟩ := step1 Hr.out j Hj.out _ 32 rfl
                    exact ⟨k + 1, j + 1, f', by omega, by go_num, by go_num, by show _ = _; rw [X.out, esc1_no hn, List.length_append, ← Hj.out]; rfl, ⟨hr', by rw [X.out, esc1_no hn]; exact hf'⟩, Lib.Hx.grownBy_set Hg.out _ rfl _⟩
                  case measure => simp [intOf]; omega
              · have h32 : ((c.toNat : Int) == 32) = false := beq_eq_false_iff_ne.2 (fun h => hc32 (UInt8.toNat_inj.1 (by have : (32 : UInt8).toNat = 32 := rfl; omega)))
                clear hc32
                cases hn : need m c with
                | true =>
                  rw [esc1_yes hn] at hel
                  simp only [List.length_cons, List.length_nil] at hel
                  have hcj : wr.cell? ⟨(w.heap.size + 1), j, none⟩ = some (f j) := Hr.out.1.cell (by omega)
                  have hf2 : ∀ v, (wr.setCell ⟨(w.heap.size + 1), j, none⟩ v).frozen? ⟨(w.heap.size + 1), j + 1, none⟩ = false := fun v => (Hr.out.1.set _ v).frozen _
                  have hc2 : ∀ v, (wr.setCell ⟨(w.heap.size + 1), j, none⟩ v).cell? ⟨(w.heap.size + 1), j + 1, none⟩ = some (f (j + 1)) := fun v => by
                    have := (Hr.out.1.set j v).cell (i := j + 1) (by omega)
                    rwa [if_neg (by omega)] at this
                  have hf3 : ∀ v u, ((wr.setCell ⟨(w.heap.size + 1), j, none⟩ v).setCell ⟨(w.heap.size + 1), j + 1, none⟩ u).frozen? ⟨(w.heap.size + 1), j + 2, none⟩ = false := fun v u => ((Hr.out.1.set _ v).set _ u).frozen _
                  have hc3 : ∀ v u, ((wr.setCell ⟨(w.heap.size + 1), j, none⟩ v).setCell ⟨(w.heap.size + 1), j + 1, none⟩ u).cell? ⟨(w.heap.size + 1), j + 2, none⟩ = some (f (j + 2)) := fun v u => by
                    have := ((Hr.out.1.set j v).set (j + 1) u).cell (i := j + 2) (by omega)
                    rwa [if_neg (by omega), if_neg (by omega)] at this
                  go_wp2_with (go_at_call 37; refine (should_any c m _ hm htr).mono ?_; rintro e w' ⟨rfl, rfl⟩; rw [hn])
                  go_roundw
                  case rel =>
                    obtain ⟨f', hr', hf'⟩ := step3 Hr.out j Hj.out _ _ c (dig_val (c.toNat / 16) (by show _ < 16; omega)) (dig_val (c.toNat % 16) (by show _ < 16; omega))
                    exact ⟨k + 1, j + 3, f', by omega, by go_num, by go_num, by show _ = _; rw [X.out, esc1_yes hn, List.length_append, ← Hj.out]; rfl, ⟨hr', by rw [X.out, esc1_yes hn]; exact hf'⟩, Lib.Hx.grownBy_set (Lib.Hx.grownBy_set (Lib.Hx.grownBy_set Hg.out _ rfl _) _ rfl _) _ rfl _⟩
                  case measure => simp [intOf]; omega
                | false =>
                  rw [esc1_no hn] at hel
                  simp only [List.length_cons, List.length_nil] at hel
                  have hcj : wr.cell? ⟨(w.heap.size + 1), j, none⟩ = some (f j) := Hr.out.1.cell (by omega)
                  go_wp2_with (go_at_call 37; refine (should_any c m _ hm htr).mono ?_; rintro e w' ⟨rfl, rfl⟩; rw [hn])
                  go_roundw
                  case rel =>
                    obtain ⟨f', hr', hf'⟩ := step1 Hr.out j Hj.out _ c rfl
                    exact ⟨k + 1, j + 1, f', by omega, by go_num, by go_num, by show _ = _; rw [X.out, esc1_no hn, List.length_append, ← Hj.out]; rfl, ⟨hr', by rw [X.out, esc1_no hn]; exact hf'⟩, Lib.Hx.grownBy_set Hg.out _ rfl _⟩
                  case measure => simp [intOf]; omega
            · obtain rfl : k = s.size := by omega
              rw [List.take_of_length_le (by rw [← Lib.size_eq]; exact Nat.le_refl _)] at Hj Hr
              have hlen : (esc m s.data.toList).length = s.size + 2 * H := by rw [HL.out, Lib.size_eq]
              have hconv := conv_row Hr.out.1 Hr.out.2 (by omega) 64
              rw [hlen] at hconv
              clear hlen
              go_wp2_with fail
              go_ret
              exact ⟨rfl, hBx.grown Hg.out (by omega) (fun k h => by cases h; omega)⟩
        · have hmk : ∀ w : World, (Instr.makeSlice 44 (.int .i64 ((s.size : Int) + 2 * (H : Int))) (.int .i64 ((s.size : Int) + 2 * (H : Int)))).run Tryd.prog w = .ok (.slice (some ⟨w.heap.size, 0, none⟩) (s.size + 2 * H) (s.size + 2 * H)) (w.alloc (.cells (madeCells #[.int .u8 0] (s.size + 2 * H)) 5)) := fun w => by
            have h := run_make_row' (P := Tryd.prog) 44 5 (.int .u8 0) 1 Tryd.underlying44 Tryd.info5 rfl .i64 .i64 (s.size + 2 * H) (by omega) (by omega) w
            rwa [show ((s.size + 2 * H : Nat) : Int) = (s.size : Int) + 2 * (H : Int) by omega] at h
          have hcvg := fun W : World => Lib.run_convert_string_bytes (P := Tryd.prog) W 9 44 5 s Tryd.underlying9 Tryd.underlying44 Tryd.underlying5
          go_wp2_with fail
          generalize (#[Value.int IntKind.u8 0, Value.int IntKind.u8 0, Value.int IntKind.u8 0, Value.int IntKind.u8 0, Value.int IntKind.u8 0, Value.int IntKind.u8 0, Value.int IntKind.u8 0, Value.int IntKind.u8 0, Value.int IntKind.u8 0, Value.int IntKind.u8 0, Value.int IntKind.u8 0, Value.int IntKind.u8 0, Value.int IntKind.u8 0, Value.int IntKind.u8 0, Value.int IntKind.u8 0, Value.int IntKind.u8 0, Value.int IntKind.u8 0, Value.int IntKind.u8 0, Value.int IntKind.u8 0, Value.int IntKind.u8 0, Value.int IntKind.u8 0, Value.int IntKind.u8 0, Value.int IntKind.u8 0, Value.int IntKind.u8 0, Value.int IntKind.u8 0, Value.int IntKind.u8 0, Value.int IntKind.u8 0, Value.int IntKind.u8 0, Value.int IntKind.u8 0, Value.int IntKind.u8 0, Value.int IntKind.u8 0, Value.int IntKind.u8 0, Value.int IntKind.u8 0, Value.int IntKind.u8 0, Value.int IntKind.u8 0, Value.int IntKind.u8 0, Value.int IntKind.u8 0, Value.int IntKind.u8 0, Value.int IntKind.u8 0, Value.int IntKind.u8 0, Value.int IntKind.u8 0, Value.int IntKind.u8 0, Value.int IntKind.u8 0, Value.int IntKind.u8 0, Value.int IntKind.u8 0, Value.int IntKind.u8 0, Value.int IntKind.u8 0, Value.int IntKind.u8 0, Value.int IntKind.u8 0, Value.int IntKind.u8 0, Value.int IntKind.u8 0, Value.int IntKind.u8 0, Value.int IntKind.u8 0, Value.int IntKind.u8 0, Value.int IntKind.u8 0, Value.int IntKind.u8 0, Value.int IntKind.u8 0, Value.int IntKind.u8 0, Value.int IntKind.u8 0, Value.int IntKind.u8 0, Value.int IntKind.u8 0, Value.int IntKind.u8 0, Value.int IntKind.u8 0, Value.int IntKind.u8 0] : Array Value) = z64
          have hb1 : Below w.heap.size w (w1.alloc (.cells z64 61)) := hB1.alloc (by omega) _
          have hs1 : (w1.alloc (.cells z64 61)).heap.size = w.heap.size + 1 + 1 := by simp; omega
          generalize w1.alloc (.cells z64 61) = W1 at *
          have hr2 := World.rowIs_made W1 (.int .u8 0) (s.size + 2 * H) 5
          have hb2 : Below w.heap.size w (W1.alloc (.cells (madeCells #[.int .u8 0] (s.size + 2 * H)) 5)) := hb1.alloc (by omega) _
          have hs2 : (W1.alloc (.cells (madeCells #[.int .u8 0] (s.size + 2 * H)) 5)).heap.size = w.heap.size + 1 + 1 + 1 := by simp; omega
          generalize W1.alloc (.cells (madeCells #[.int .u8 0] (s.size + 2 * H)) 5) = W2 at *
          obtain ⟨hb3, hs3, hc3⟩ := conv_world W2 s
          have hrx : (Lib.bytesWorld W2 5 s).rowIs (w.heap.size + 1 + 1) 5 (s.size + 2 * H) (fun _ => .int .u8 0) := by
            rw [hs1] at hr2; exact hr2.of_block (hb3.block _ (by omega))
          have hBx := hb2.trans (hb3.mono (by omega))
          rw [hs2] at hc3
          generalize Lib.bytesWorld W2 5 s = Wx at *
          have HCx : Hid (∀ k, k < s.size → Wx.cell? ⟨w.heap.size + 1 + 1 + 1, k, none⟩ = some (.int .u8 (s.data.toList.getD k 0).toNat)) := hc3
          have htx : Tab Wx := ht.below hBx h0
          clear hc3 hr2 hmk hcvg hcv HC1
          go_loopw [13, 15, 78] (fun vj _ vi wr => ∃ (k j : Nat) (f : Nat → Value), k ≤ s.size ∧ vi = .int .i64 k ∧ vj = .int .i64 j ∧ Hid (j = (esc m (s.data.toList.take k)).length) ∧ Hid (wr.rowIs (w.heap.size + 1 + 1) 5 (s.size + 2 * H) f ∧ Filled f (esc m (s.data.toList.take k))) ∧ Hid (Wx.grownBy wr (some ((w.heap.size + 1 + 1))))) (fun _ _ vi _ => s.size - (intOf vi).toNat)
          case atStart => exact ⟨0, 0, _, Nat.zero_le _, rfl, rfl, rfl, ⟨hrx, Filled.nil _⟩, Lib.Hx.grownBy_refl _ _⟩
          case round =>
            obtain ⟨k, j, f, hk', rfl, rfl, Hj, Hr, Hg⟩ := hrel
            by_cases hkt' : k < s.size
            · obtain ⟨c, hcl⟩ : ∃ c, s.data.toList[k]? = some c := ⟨_, Lib.data_getElem? s k hkt'⟩
              have hcell : wr.cell? ⟨w.heap.size + 1 + 1 + 1, k, none⟩ = some (.int .u8 c.toNat) := by
                refine Hg.out.cell ?_ (by simp)
                rw [HCx.out k hkt']; simp [List.getD, hcl]
              have htr : Tab wr := htx.grown Hg.out (by omega)
              have hes := esc_snoc m s.data.toList k c hcl
              have hel := esc_take_le m s.data.toList (k + 1)
              rw [hes, List.length_append, ← Hj.out, HL.out, ← Lib.size_eq] at hel
              have hc8 := c.toNat_lt
              have hf1 : wr.frozen? ⟨(w.heap.size + 1 + 1), j, none⟩ = false := Hr.out.1.frozen _
              have X : Hid (esc m (s.data.toList.take (k + 1)) = esc m (s.data.toList.take k) ++ esc1 m c) := hes
              clear hes hcl
              by_cases hc32 : c = 32
              · subst hc32
                cases hn : need m 32 with
                | true =>
                  rw [esc1_yes hn] at hel
                  simp only [List.length_cons, List.length_nil] at hel
                  have hcj : wr.cell? ⟨(w.heap.size + 1 + 1), j, none⟩ = some (f j) := Hr.out.1.cell (by omega)
                  have hf2 : ∀ v, (wr.setCell ⟨(w.heap.size + 1 + 1), j, none⟩ v).frozen? ⟨(w.heap.size + 1 + 1), j + 1, none⟩ = false := fun v => (Hr.out.1.set _ v).frozen _
                  have hc2 : ∀ v, (wr.setCell ⟨(w.heap.size + 1 + 1), j, none⟩ v).cell? ⟨(w.heap.size + 1 + 1), j + 1, none⟩ = some (f (j + 1)) := fun v => by
                    have := (Hr.out.1.set j v).cell (i := j + 1) (by omega)
                    rwa [if_neg (by omega)] at this
                  have hf3 : ∀ v u, ((wr.setCell ⟨(w.heap.size + 1 + 1), j, none⟩ v).setCell ⟨(w.heap.size + 1 + 1), j + 1, none⟩ u).frozen? ⟨(w.heap.size + 1 + 1), j + 2, none⟩ = false := fun v u => ((Hr.out.1.set _ v).set _ u).frozen _
                  have hc3 : ∀ v u, ((wr.setCell ⟨(w.heap.size + 1 + 1), j, none⟩ v).setCell ⟨(w.heap.size + 1 + 1), j + 1, none⟩ u).cell? ⟨(w.heap.size + 1 + 1), j + 2, none⟩ = some (f (j + 2)) := fun v u => by
                    have := ((Hr.out.1.set j v).set (j + 1) u).cell (i := j + 2) (by omega)
                    rwa [if_neg (by omega), if_neg (by omega)] at this
                  go_wp2_with (go_at_call 37; refine (should_int _ 32 m _ rfl hm htr).mono ?_; rintro e w' ⟨rfl, rfl⟩; rw [hn])
                  go_roundw
                  case rel =>
                    obtain ⟨f', hr', hf'⟩ := step3 Hr.out j Hj.out _ _ 32 rfl rfl
                    exact ⟨k + 1, j + 3, f', by omega, by go_num, by go_num, by show _ = _; rw [X.out, esc1_yes hn, List.length_append, ← Hj.out]; rfl, ⟨hr', by rw [X.out, esc1_yes hn]; exact hf'⟩, Lib.Hx.grownBy_set (Lib.Hx.grownBy_set (Lib.Hx.grownBy_set Hg.out _ rfl _) _ rfl _) _ rfl _⟩
                  case measure => simp [intOf]; omega
                | false =>
                  rw [esc1_no hn] at hel
                  simp only [List.length_cons, List.length_nil] at hel
                  have hcj : wr.cell? ⟨(w.heap.size + 1 + 1), j, none⟩ = some (f j) := Hr.out.1.cell (by omega)
                  go_wp2_with (go_at_call 37; refine (should_int _ 32 m _ rfl hm htr).mono ?_; rintro e w' ⟨rfl, rfl⟩; rw [hn])
                  go_roundw
                  case rel =>
                    obtain ⟨f', hr', hf'⟩ := step1 Hr.out j Hj.out _ 32 rfl
                    exact ⟨k + 1, j + 1, f', by omega, by go_num, by go_num, by show _ = _; rw [X.out, esc1_no hn, List.length_append, ← Hj.out]; rfl, ⟨hr', by rw [X.out, esc1_no hn]; exact hf'⟩, Lib.Hx.grownBy_set Hg.out _ rfl _⟩
                  case measure => simp [intOf]; omega
              · have h32 : ((c.toNat : Int) == 32) = false := beq_eq_false_iff_ne.2 (fun h => hc32 (UInt8.toNat_inj.1 (by have : (32 : UInt8).toNat = 32 := rfl; omega)))
                clear hc32
                cases hn : need m c with
                | true =>
                  rw [esc1_yes hn] at hel
                  simp only [List.length_cons, List.length_nil] at hel
                  have hcj : wr.cell? ⟨(w.heap.size + 1 + 1), j, none⟩ = some (f j) := Hr.out.1.cell (by omega)
                  have hf2 : ∀ v, (wr.setCell ⟨(w.heap.size + 1 + 1), j, none⟩ v).frozen? ⟨(w.heap.size + 1 + 1), j + 1, none⟩ = false := fun v => (Hr.out.1.set _ v).frozen _
                  have hc2 : ∀ v, (wr.setCell ⟨(w.heap.size + 1 + 1), j, none⟩ v).cell? ⟨(w.heap.size + 1 + 1), j + 1, none⟩ = some (f (j + 1)) := fun v => by
                    have := (Hr.out.1.set j v).cell (i := j + 1) (by omega)
                    rwa [if_neg (by omega)] at this
                  have hf3 : ∀ v u, ((wr.setCell ⟨(w.heap.size + 1 + 1), j, none⟩ v).setCell ⟨(w.heap.size + 1 + 1), j + 1, none⟩ u).frozen? ⟨(w.heap.size + 1 + 1), j + 2, none⟩ = false := fun v u => ((Hr.out.1.set _ v).set _ u).frozen _
                  have hc3 : ∀ v u, ((wr.setCell ⟨(w.heap.size + 1 + 1), j, none⟩ v).setCell ⟨(w.heap.size + 1 + 1), j + 1, none⟩ u).cell? ⟨(w.heap.size + 1 + 1), j + 2, none⟩ = some (f (j + 2)) := fun v u => by
                    have := ((Hr.out.1.set j v).set (j + 1) u).cell (i := j + 2) (by omega)
                    rwa [if_neg (by omega), if_neg (by omega)] at this
                  go_wp2_with (go_at_call 37; refine (should_any c m _ hm htr).mono ?_; rintro e w' ⟨rfl, rfl⟩; rw [hn])
                  go_roundw
                  case rel =>
                    obtain ⟨f', hr', hf'⟩ := step3 Hr.out j Hj.out _ _ c (dig_val (c.toNat / 16) (by show _ < 16; omega)) (dig_val (c.toNat % 16) (by show _ < 16; omega))
                    exact ⟨k + 1, j + 3, f', by omega, by go_num, by go_num, by show _ = _; rw [X.out, esc1_yes hn, List.length_append, ← Hj.out]; rfl, ⟨hr', by rw [X.out, esc1_yes hn]; exact hf'⟩, Lib.Hx.grownBy_set (Lib.Hx.grownBy_set (Lib.Hx.grownBy_set Hg.out _ rfl _) _ rfl _) _ rfl _⟩
                  case measure => simp [intOf]; omega
                | false =>
                  rw [esc1_no hn] at hel
                  simp only [List.length_cons, List.length_nil] at hel
                  have hcj : wr.cell? ⟨(w.heap.size + 1 + 1), j, none⟩ = some (f j) := Hr.out.1.cell (by omega)
                  go_wp2_with (go_at_call 37; refine (should_any c m _ hm htr).mono ?_; rintro e w' ⟨rfl, rfl⟩; rw [hn])
                  go_roundw
                  case rel =>
                    obtain ⟨f', hr', hf'⟩ := step1 Hr.out j Hj.out _ c rfl
                    exact ⟨k + 1, j + 1, f', by omega, by go_num, by go_num, by show _ = _; rw [X.out, esc1_no hn, List.length_append, ← Hj.out]; rfl, ⟨hr', by rw [X.out, esc1_no hn]; exact hf'⟩, Lib.Hx.grownBy_set Hg.out _ rfl _⟩
                  case measure => simp [intOf]; omega
            · obtain rfl : k = s.size := by omega
              rw [List.take_of_length_le (by rw [← Lib.size_eq]; exact Nat.le_refl _)] at Hj Hr
              have hlen : (esc m s.data.toList).length = s.size + 2 * H := by rw [HL.out, Lib.size_eq]
              have hconv := conv_row Hr.out.1 Hr.out.2 (by omega) (s.size + 2 * H)
              rw [hlen] at hconv
              clear hlen
              go_wp2_with fail
              go_ret
              exact ⟨rfl, hBx.grown Hg.out (by omega) (fun k h => by cases h; omega)⟩
end Go.Proofs.Qxb6605763aDoor.W
