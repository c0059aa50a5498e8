import Derived.Test.Qxb6606000aFmtReq
import Derived.Laws.AppendOwnNone
import Derived.Laws.CopyOwn
import Derived.RegionTactic
import Derived.ChangeAlike
import Derived.BigRegion
namespace Go.Proofs.Qxb6606000aFmt.W
open Go.RowKit Go.Lib
open Plain
set_option linter.unusedVariables false
set_option linter.unusedSimpArgs false

/-- The request's cells. -/
def reqCells (k x o : ByteArray) : Array Value := #[.string k, .string x, .slice none 0 0, .string o, .string ⟨#[]⟩, .int .u8 0, .int .u8 0, .int .u8 0, .int .u8 0, .int .u8 0, .int .u8 0, .int .u8 0, .int .u8 0, .int .u8 0, .int .u8 0, .int .u8 0, .int .u8 0, .int .u8 0, .int .u8 0, .int .u8 0, .int .u8 0, .int .u8 0, .int .u8 0, .int .u8 0, .int .u8 0, .int .u8 0, .int .u8 0, .int .u8 0, .int .u8 0, .int .u8 0, .int .u8 0, .int .u8 0, .int .u8 0, .int .u8 0, .int .u8 0, .int .u8 0, .int .u8 0, .slice none 0 0, .int .i64 0, .int .i64 0, .bool false, .string ⟨#[]⟩]

/-- The request lies at q. -/
structure ReqAt (q : Nat) (k x o : ByteArray) (w : World) : Prop where
  blk : w.heap[q]? = some (.cells (reqCells k x o) 48)

theorem ReqAt.at {q : Nat} {k x o : ByteArray} {w : World} (h : ReqAt q k x o w) (i : Nat) : w.cell? ⟨q, i, none⟩ = (reqCells k x o)[i]? := by
  unfold World.cell?; rw [h.blk]; rfl

theorem ReqAt.below {q B : Nat} {k x o : ByteArray} {w w' : World} (h : ReqAt q k x o w) (hb : Below B w w') (hq : q < B) : ReqAt q k x o w' := ⟨(hb.block q hq).trans h.blk⟩

theorem ReqAt.zeros {q : Nat} {k x o : ByteArray} {w : World} (h : ReqAt q k x o w) : w.rangeAt q 5 [.int .u8 0, .int .u8 0, .int .u8 0, .int .u8 0, .int .u8 0, .int .u8 0, .int .u8 0, .int .u8 0, .int .u8 0, .int .u8 0, .int .u8 0, .int .u8 0, .int .u8 0, .int .u8 0, .int .u8 0, .int .u8 0, .int .u8 0, .int .u8 0, .int .u8 0, .int .u8 0, .int .u8 0, .int .u8 0, .int .u8 0, .int .u8 0, .int .u8 0, .int .u8 0, .int .u8 0, .int .u8 0, .int .u8 0, .int .u8 0, .int .u8 0, .int .u8 0] := by
  intro j v hj
  rw [h.at (5 + j)]
  have hl : j < 32 := (List.getElem?_eq_some_iff.1 hj).1
  have hall : ∀ i : Fin 32, (reqCells k x o)[5 + i.val]? = some (.int .u8 0) := by
    intro i
    obtain ⟨i, hi⟩ := i
    iterate 32 (rcases i with _ | i; · rfl)
    omega
  have h2 : ∀ i : Fin 32, ([.int .u8 0, .int .u8 0, .int .u8 0, .int .u8 0, .int .u8 0, .int .u8 0, .int .u8 0, .int .u8 0, .int .u8 0, .int .u8 0, .int .u8 0, .int .u8 0, .int .u8 0, .int .u8 0, .int .u8 0, .int .u8 0, .int .u8 0, .int .u8 0, .int .u8 0, .int .u8 0, .int .u8 0, .int .u8 0, .int .u8 0, .int .u8 0, .int .u8 0, .int .u8 0, .int .u8 0, .int .u8 0, .int .u8 0, .int .u8 0, .int .u8 0, .int .u8 0] : List Value)[i.val]? = some (.int .u8 0) := by
    intro i
    obtain ⟨i, hi⟩ := i
    iterate 32 (rcases i with _ | i; · rfl)
    omega
  rw [hall ⟨j, hl⟩, ← h2 ⟨j, hl⟩]
  exact hj

/-- copy of a row over a row that holds the same: nothing turns. -/
theorem copy_same {W : World} {B B' g g' n c c' : Nat} {xs : List Value} (ty : TypeId) (h : W.ownsRow B 5 1 (.slice (some ⟨g, 0, none⟩) n c) n xs) (h' : W.ownsRow B' 5 1 (.slice (some ⟨g', 0, none⟩) n c') n xs) (h1 : ∀ v ∈ xs, v.oneCell' = true) :
    (Builtin.copy_ #[22, 22] ty #[.slice (some ⟨g, 0, none⟩) n c, .slice (some ⟨g', 0, none⟩) n c']).run Tryf.prog W = .ok (goInt n) W := by
  have hl : xs.length = n := by have := h.1; omega
  rcases h.2 with ⟨h0, _⟩ | ⟨g1, cap1, cur, h0, _, hg, hle, _, hcs, htk⟩
  · cases h0
  · cases h0
    have hr := run_copy_row (P := Tryf.prog) W 22 22 ty 5 g 0 n c ⟨g', 0, none⟩ n c' cur 5 xs Tryf.underlying22 (by kernel_rfl) hg (by rw [hl]; exact (Nat.min_self n).symm) (h'.cells rfl) (by omega) h1
    rw [hr, hl]
    have : (cur.toList.take 0 ++ xs ++ cur.toList.drop (0 + n)).toArray = cur := by
      rw [List.take_zero, List.nil_append, Nat.zero_add, ← htk, Nat.mul_one, List.take_append_drop]
    rw [this, setRow_self _ _ _ _ _ hg]

theorem copy_zero (W : World) (ty : TypeId) (d a : Option Addr) (dCap sCap : Nat) : (Builtin.copy_ #[22, 22] ty #[.slice d 0 dCap, .slice a 0 sCap]).run Tryf.prog W = .ok (goInt 0) W :=
  run_copy_none (P := Tryf.prog) W 22 22 ty 5 d a 0 dCap 0 sCap Tryf.underlying22 (by kernel_rfl) rfl

theorem bytes_one (l : List UInt8) : ∀ v ∈ byteCells l, v.oneCell' = true := by
  intro v hv
  unfold byteCells at hv
  obtain ⟨b, _, rfl⟩ := List.mem_map.1 hv
  rfl

theorem own_shape {W : World} {B n : Nat} {v : Value} {xs : List Value} (h : W.ownsRow B 5 1 v n xs) (hn : 0 < n) : ∃ g c, v = .slice (some ⟨g, 0, none⟩) n c := by
  rcases h.2 with ⟨_, h2⟩ | ⟨g, cap, cur, h1, _⟩
  · omega
  · exact ⟨g, cap, h1⟩

theorem own_cap {W : World} {B n g c : Nat} {xs : List Value} (h : W.ownsRow B 5 1 (.slice (some ⟨g, 0, none⟩) n c) n xs) : n ≤ c ∧ c ≤ maxLen := by
  rcases h.2 with ⟨h1, _⟩ | ⟨g, cap, cur, h1, _, _, h3, h4, _⟩
  · cases h1
  · cases h1; exact ⟨h3, h4⟩

/-- What appendRequest hands back. -/
def Made (n : Nat) (bs : List UInt8) (w : World) (e : Ending) (w' : World) : Prop :=
  ∃ g cap, e = .returned (.tuple #[.slice (some ⟨g, 0, none⟩) n cap, .nilIface]) ∧ Below w.heap.size w w' ∧ w'.ownsRow w.heap.size 5 1 (.slice (some ⟨g, 0, none⟩) n cap) n (byteCells bs)


/-- What 'text' writes. -/
def opt (k s : List UInt8) : List UInt8 := if s = [] then [] else [32] ++ k ++ [61] ++ s

theorem opt_len (k s : ByteArray) : (opt k.data.toList s.data.toList).length ≤ k.size + s.size + 2 := by
  unfold opt
  split
  · exact Nat.zero_le _
  · rw [size_eq k, size_eq s]
    simp only [List.length_append, List.length_cons, List.length_nil]
    omega

theorem empty_of {s : ByteArray} (h : s.data.toList = []) : s = ⟨#[]⟩ := by
  cases s with
  | mk a => cases a with
    | mk l => simp at h; subst h; rfl

theorem isEmpty_of {s : ByteArray} (h : s.data.toList ≠ []) : s.toList.isEmpty = false := by
  rw [Lib.toList_data]
  cases hs : s.data.toList with
  | nil => exact absurd hs h
  | cons a l => rfl

theorem text_opt {B L g cap : Nat} {bs : List UInt8} {w : World} (k s : ByteArray) (h : LineAt B L (.slice (some ⟨g, 0, none⟩) bs.length cap) bs w) (h0 : 0 < bs.length) (hp : plain s.data.toList) (hk : k.size ≤ 100) (hz : s.size ≤ 1048576) (hn : bs.length ≤ 80000000) (hB : B ≤ w.heap.size) :
    Calls Tryf.prog 35 #[.pointer (some ⟨L, 0, none⟩), .string k, .string s] w fun e w' => Wrote B L (bs ++ opt k.data.toList s.data.toList) w e w' := by
  by_cases h1 : s.data.toList = []
  · have hs := empty_of h1
    subst hs
    refine (text_none (w := w) (.pointer (some ⟨L, 0, none⟩)) (.string k) ⟨L, rfl⟩ ⟨k, rfl⟩).mono ?_
    rintro e w' ⟨rfl, rfl⟩
    have : opt k.data.toList (ByteArray.mk #[]).data.toList = [] := by unfold opt; rw [if_pos h1]
    rw [this, List.append_nil]
    exact ⟨rfl, g, cap, h, Below.refl _ _⟩
  · have : opt k.data.toList s.data.toList = [32] ++ k.data.toList ++ [61] ++ s.data.toList := by unfold opt; rw [if_neg h1]
    rw [this]
    have e2 : bs ++ ([32] ++ k.data.toList ++ [61] ++ s.data.toList) = bs ++ [32] ++ k.data.toList ++ [61] ++ s.data.toList := by simp
    rw [e2]
    exact text_any k s h h0 hp (isEmpty_of h1) hk hz hn hB

theorem LineAt.keep {B L : Nat} {v : Value} {bs : List UInt8} {w w' : World} (h : LineAt B L v bs w) (hb : Below w.heap.size w w') : LineAt B L v bs w' := by
  refine ⟨(hb.block L h.lt).trans h.blk, ⟨h.own.1, ?_⟩, h.low, h.nn⟩
  rcases h.own.2 with h1 | ⟨g, cap, cur, rfl, h1, h2, h3⟩
  · exact .inl h1
  · exact .inr ⟨g, cap, cur, rfl, h1, (hb.block g (Array.getElem?_eq_some_iff.1 h2).1).trans h2, h3⟩

/-- A row that lies below B is left as it was. -/
theorem own_below {w w' : World} {B C n g cap : Nat} {xs : List Value} (h : w.ownsRow B 5 1 (.slice (some ⟨g, 0, none⟩) n cap) n xs) (hb : Below C w w') (hg : g < C) : w'.ownsRow B 5 1 (.slice (some ⟨g, 0, none⟩) n cap) n xs := by
  refine ⟨h.1, ?_⟩
  rcases h.2 with ⟨h1, _⟩ | ⟨g', cap', cur, h0, h1, h2, h3⟩
  · cases h1
  · cases h0
    exact .inr ⟨g, cap, cur, rfl, h1, (hb.block g hg).trans h2, h3⟩

theorem line_of (k x o : List UInt8) (ho : o ≠ []) : [] ++ k ++ opt [116, 120] x ++ opt [111, 117, 116, 99, 111, 109, 101] o = line k x o := by
  unfold line fore opt key
  rw [if_neg ho]
  split <;> simp

set_option maxRecDepth 100000 in
set_option maxHeartbeats 1000000 in
theorem req_any {q : Nat} {k x o : ByteArray} {w : World} (hq : ReqAt q k x o w) (hk : plain k.data.toList) (hx : plain x.data.toList) (ho : plain o.data.toList) (hk0 : k.data.toList ≠ []) (ho0 : o.data.toList ≠ [])
    (zk : k.size ≤ 1048576) (zx : x.size ≤ 1048576) (zo : o.size ≤ 1048576) :
    Calls Tryf.prog 36 #[.slice none 0 0, .pointer (some ⟨q, 0, none⟩)] w fun e w' => Made ((line k.data.toList x.data.toList o.data.toList).length + 1) (line k.data.toList x.data.toList o.data.toList ++ [10]) w e w' := by
  have hqB : q < w.heap.size := (Array.getElem?_eq_some_iff.1 hq.blk).1
  obtain ⟨i0, hi, hz0, hz1, hz2⟩ := info_parts Tryf.info5
  have q2 : w.cell? ⟨q, 2, none⟩ = some (.slice none 0 0) := hq.at 2
  have HL := line_of k.data.toList x.data.toList o.data.toList ho0
  have l1 : 0 < ([] ++ k.data.toList).length := by rw [List.nil_append]; exact List.length_pos_iff.2 hk0
  have l1' : ([] ++ k.data.toList).length ≤ 1048576 := by rw [List.nil_append, ← size_eq]; exact zk
  have hk1 := isEmpty_of hk0
  obtain ⟨b1, H1⟩ : ∃ b1, Hid ([] ++ k.data.toList = b1) := ⟨_, show [] ++ k.data.toList = _ from rfl⟩
  rw [H1.out] at HL l1 l1'
  have t2 := opt_len ⟨#[116, 120]⟩ x
  have s2 : (ByteArray.mk #[116, 120]).size = 2 := rfl
  obtain ⟨b2, H2⟩ : ∃ b2, Hid (b1 ++ opt (ByteArray.mk #[116, 120]).data.toList x.data.toList = b2) := ⟨_, show b1 ++ opt (ByteArray.mk #[116, 120]).data.toList x.data.toList = _ from rfl⟩
  have e2 : b2.length = b1.length + (opt (ByteArray.mk #[116, 120]).data.toList x.data.toList).length := by rw [← H2.out, List.length_append]
  have l2 : 0 < b2.length := by omega
  have l2' : b2.length ≤ 3000000 := by omega
  have t3 := opt_len ⟨#[111, 117, 116, 99, 111, 109, 101]⟩ o
  have s3 : (ByteArray.mk #[111, 117, 116, 99, 111, 109, 101]).size = 7 := rfl
  obtain ⟨b3, H3⟩ : ∃ b3, Hid (b2 ++ opt (ByteArray.mk #[111, 117, 116, 99, 111, 109, 101]).data.toList o.data.toList = b3) := ⟨_, show b2 ++ opt (ByteArray.mk #[111, 117, 116, 99, 111, 109, 101]).data.toList o.data.toList = _ from rfl⟩
  have e3 : b3.length = b2.length + (opt (ByteArray.mk #[111, 117, 116, 99, 111, 109, 101]).data.toList o.data.toList).length := by rw [← H3.out, List.length_append]
  have l3 : 0 < b3.length := by omega
  have l3' : b3.length ≤ 5000000 := by omega
  have H4 : line k.data.toList x.data.toList o.data.toList = b3 := by rw [← HL, ← H3.out, ← H2.out]
  rw [H4]
  clear HL H4 e2 e3 t2 t3 s2 s3
  go_enter Tryf.func36, Tryf.ntmps36
  go_wp2_with (first
    | (go_at_call 49; refine (textlen_nil w).mono ?_; rintro e w' ⟨rfl, rfl⟩)
    | (at_make; refine wpList_make_own _ rfl _ (.tmp 27) 22 rfl w.heap.size 5 i0 (.int .u8 0) 1 Tryf.underlying22 hi hz0 hz1 _ _ _ 256 rfl rfl rfl (by rw [hz2]; omega) (by unfold maxLen; omega) (Nat.le_refl _) ?_; intro w0 hown0 hgrow0; have hb0 : Below w.heap.size w w0 := (Below.refl _ _).grown hgrow0 (Nat.le_refl _) (fun k h => by cases h); have q2' : w0.cell? ⟨q, 2, none⟩ = some (.slice none 0 0) := (hq.below hb0 hqB).at 2)
    | (at_builtin; refine wpList_append_own_none rfl (.tmp 28) (.tmp 29) 22 rfl w.heap.size 5 i0 1 Tryf.underlying22 hi _ 0 [] rfl hown0 rfl ?_)
    | (go_at_call 50; refine (text_nil w.heap.size 256 w0).mono ?_; rintro e w' ⟨rfl, rfl⟩)
    | (at_make; refine wpList_make_own _ rfl _ _ 22 rfl w0.heap.size 5 i0 (.int .u8 0) 1 Tryf.underlying22 hi hz0 hz1 _ _ _ 256 rfl rfl rfl (by rw [hz2]; omega) (by unfold maxLen; omega) (Nat.le_refl _) ?_; intro w1 hown1 hgrow1
       have hb1 : Below w0.heap.size w0 w1 := (Below.refl _ _).grown hgrow1 (Nat.le_refl _) (fun k h => by cases h)
       have hq0 := hq.below hb0 hqB
       have hqL : q < w0.heap.size := Nat.lt_of_lt_of_le hqB hb0.size
       have hq1 := hq0.below hb1 hqL
       have hlt : q < w1.heap.size := Nat.lt_of_lt_of_le hqL hb1.size
       have q0' : w1.cell? ⟨q, 0, none⟩ = some (.string k) := hq1.at 0
       have L1 : LineAt w0.heap.size w1.heap.size (.slice (some ⟨w0.heap.size, 0, none⟩) ([] : List UInt8).length 256) [] (w1.alloc (.cells #[.slice (some ⟨w0.heap.size, 0, none⟩) 0 256, .int .i64 0, .nilIface] 68)) := ⟨heap_alloc_new _ _, hown1.alloc _, hb1.size, by simp⟩
       have B1 : Below w0.heap.size w0 (w1.alloc (.cells #[.slice (some ⟨w0.heap.size, 0, none⟩) 0 256, .int .i64 0, .nilIface] 68)) := hb1.alloc hb1.size _
       have s1 := B1.size)
    | (go_at_call 51; refine (word_any k L1 hk hk1 zk (by simp) s1).mono ?_; rintro e w2 ⟨rfl, g2, c2, L2, B2'⟩; rw [H1.out] at L2
       have B2 := B1.trans B2'; have S2 := B2.size; have q1' : w2.cell? ⟨q, 1, none⟩ = some (.string x) := (hq0.below B2 hqL).at 1))
  refine (text_opt ⟨#[116, 120]⟩ x L2 l1 hx (by decide) zx (by omega) S2).mono ?_
  rintro e w3 ⟨rfl, g3, c3, L3, B3'⟩
  rw [show (ByteArray.mk #[116, 120]).data.toList = [116, 120] from rfl, H2.out] at L3
  have B3 := B2.trans B3'
  have S3 := B3.size
  have q3' : w3.cell? ⟨q, 3, none⟩ = some (.string o) := (hq0.below B3 hqL).at 3
  clear q1' q0' L2 L1
  go_wp2_with fail
  go_at_call 35
  refine (text_opt ⟨#[111, 117, 116, 99, 111, 109, 101]⟩ o L3 l2 ho (by decide) zo (by omega) S3).mono ?_
  rintro e w4 ⟨rfl, g4, c4, L4, B4'⟩
  rw [show (ByteArray.mk #[111, 117, 116, 99, 111, 109, 101]).data.toList = [111, 117, 116, 99, 111, 109, 101] from rfl, H3.out] at L4
  have B4 := B3.trans B4'
  have S4 := B4.size
  have hq4 := hq0.below B4 hqL
  have q4' : w4.cell? ⟨q, 4, none⟩ = some (.string ⟨#[]⟩) := hq4.at 4
  clear q3' L3
  go_wp2_with fail
  go_at_call 35
  refine (text_none (w := w4) (.pointer (some ⟨w1.heap.size, 0, none⟩)) (.string ⟨#[102, 114, 111, 109]⟩) ⟨_, rfl⟩ ⟨_, rfl⟩).mono ?_
  rintro e w' ⟨rfl, rfl⟩
  go_wp2_with (refine wpList_load_mid rfl 45 (.tmp 72) rfl q 5 rfl [.int .u8 0, .int .u8 0, .int .u8 0, .int .u8 0, .int .u8 0, .int .u8 0, .int .u8 0, .int .u8 0, .int .u8 0, .int .u8 0, .int .u8 0, .int .u8 0, .int .u8 0, .int .u8 0, .int .u8 0, .int .u8 0, .int .u8 0, .int .u8 0, .int .u8 0, .int .u8 0, .int .u8 0, .int .u8 0, .int .u8 0, .int .u8 0, .int .u8 0, .int .u8 0, .int .u8 0, .int .u8 0, .int .u8 0, .int .u8 0, .int .u8 0, .int .u8 0] _ hq4.zeros Tryf.underlying45 rfl size45 ?_)
  go_at_call 52
  refine (digest_no w1.heap.size _ w4).mono ?_
  rintro e w5 ⟨rfl, B5'⟩
  have L5 := L4.keep B5'
  have B5 := B4.trans (B5'.mono S4)
  have S5 := B5.size
  have hq5 := hq0.below B5 hqL
  have q37 : w5.cell? ⟨q, 37, none⟩ = some (.slice none 0 0) := hq5.at 37
  have q38 : w5.cell? ⟨q, 38, none⟩ = some (.int .i64 0) := hq5.at 38
  have q39 : w5.cell? ⟨q, 39, none⟩ = some (.int .i64 0) := hq5.at 39
  have q40 : w5.cell? ⟨q, 40, none⟩ = some (.bool false) := hq5.at 40
  clear q4' L4
  go_wp2_with (first
    | (go_at_call 53; refine (names_no w1.heap.size _ w5).mono ?_; rintro e w' ⟨rfl, rfl⟩)
    | (go_at_call 54; refine (int_no w1.heap.size _ w5).mono ?_; rintro e w' ⟨rfl, rfl⟩)
    | (go_at_call 34; refine (flag_no w1.heap.size _ w5).mono ?_; rintro e w' ⟨rfl, rfl⟩))
  go_at_call 55
  refine (end_any L5 (by omega) S5).mono ?_
  rintro e w6 ⟨rfl, B6', g6, c6, O6, d0, d2⟩
  have B6 := B5.trans B6'
  have hown6 : w6.ownsRow w.heap.size 5 1 (.slice (some ⟨w.heap.size, 0, none⟩) 0 256) 0 [] := own_below hown0 B6 (hown0.lt w.heap.size rfl).2
  clear q37 q38 q39 q40 L5
  have hLne : w1.heap.size ≠ w.heap.size := by have h1 := hb1.size; have h2 := (hown0.lt w.heap.size rfl).2; omega
  have hgne : g6 ≠ w.heap.size := by have h1 := (O6.lt g6 rfl).1; have h2 := (hown0.lt w.heap.size rfl).2; omega
  have hB6 : w.heap.size ≤ w6.heap.size := Nat.le_trans (Nat.le_of_lt (hown0.lt w.heap.size rfl).2) B6.size
  go_wp2_with (at_builtin
               (refine wpList_append_own_at _ rfl (.tmp 106) (.tmp 108) 22 rfl w.heap.size 5 i0 (.int .u8 0) 1 1 Tryf.underlying22 hi hz0 hz1 hz2 rfl (by decide) _ 0 [] rfl hown6 ⟨g6, 0, none⟩ (b3.length + 1) c6 (byteCells (b3 ++ [10])) rfl (by rw [byteCells_length, len_c]; omega) (O6.cells rfl) (bytes_one _) (by unfold maxLen; omega) (by omega) hB6 ?_)
               intro v7 w7 ho7 hg7 hn7 hat7
               (simp only [Nat.zero_add, List.nil_append] at ho7)
               (have hg7 : w6.grownBy w7 (some w.heap.size) := hg7)
               (obtain ⟨g7, c7, rfl⟩ := own_shape ho7 (Nat.succ_pos _))
               (have O7 := O6.kept hg7 (Or.inr (fun e => hgne (Option.some.inj e))))
               (have d0' := hg7.cell d0 (fun e => hLne (Option.some.inj e)))
               (have d2' := hg7.cell d2 (fun e => hLne (Option.some.inj e)))
               (have z0 := copy_zero)
               (have z1 := copy_same (W := w7.drew.drew) 3 ho7 O7 (bytes_one _))
               (obtain ⟨hcap7, hmax7⟩ := own_cap ho7)
               (clear hn7 hat7))
  have hb6 : Below w.heap.size w w6 := hb0.trans (B6.mono hb0.size)
  have hb7 : Below w.heap.size w w7 := hb6.grown hg7 hB6 (fun k hk => by cases hk; exact Nat.le_refl _)
  go_region
  go_wp2_with fail
  · subst h
    go_region
    go_wp2
    go_ret2
    exact ⟨g7, _, rfl, hb7.drew.drew, ho7⟩
  · go_region
    go_wp2
    go_ret2
    exact ⟨g7, _, rfl, hb7.drew.drew, ho7⟩

/-- ZZappendRequest hands it through. -/
theorem zzreq_any {q : Nat} {k x o : ByteArray} {w : World} (hq : ReqAt q k x o w) (hk : plain k.data.toList) (hx : plain x.data.toList) (ho : plain o.data.toList) (hk0 : k.data.toList ≠ []) (ho0 : o.data.toList ≠ [])
    (zk : k.size ≤ 1048576) (zx : x.size ≤ 1048576) (zo : o.size ≤ 1048576) :
    Calls Tryf.prog 20 #[.slice none 0 0, .pointer (some ⟨q, 0, none⟩)] w fun e w' => Made ((line k.data.toList x.data.toList o.data.toList).length + 1) (line k.data.toList x.data.toList o.data.toList ++ [10]) w e w' := by
  obtain ⟨b3, H3⟩ : ∃ b3, Hid (line k.data.toList x.data.toList o.data.toList = b3) := ⟨_, show line k.data.toList x.data.toList o.data.toList = _ from rfl⟩
  have R := req_any hq hk hx ho hk0 ho0 zk zx zo
  rw [H3.out] at R ⊢
  clear H3
  go_enter Tryf.func20, Tryf.ntmps20
  go_wp2_with (go_at_call 36; refine R.mono ?_; rintro e w' ⟨g, cap, rfl, hb, hO⟩)
  go_ret2
  exact ⟨g, cap, rfl, hb, hO⟩
end Go.Proofs.Qxb6606000aFmt.W
