import Derived.Test.Qxb6606000aFmtSmall
import Derived.Lib.AppendStr
import Derived.Lib.UnsafeStr
import Derived.Maps.AppendAt
namespace Go.Proofs.Qxb6606000aFmt.W
open Go.RowKit Go.Lib
open Plain
set_option linter.unusedVariables false
set_option linter.unusedSimpArgs false

theorem Tryf.info5 : (Tryf.prog.info? 5).map (fun i => (i.zero, i.size, i.bytes)) = some (some (.int .u8 0), 1, 1) := by kernel_rfl

/-- The line's struct lies at L; its bytes bs lie in a row of the call's own. -/
structure LineAt (B L : Nat) (v : Value) (bs : List UInt8) (w : World) : Prop where
  blk : w.heap[L]? = some (.cells #[v, .int .i64 0, .nilIface] 68)
  own : w.ownsRow B 5 1 v bs.length (byteCells bs)
  low : B ≤ L
  nn : v ≠ .slice none 0 0

theorem LineAt.cell0 {B L : Nat} {v : Value} {bs : List UInt8} {w : World} (h : LineAt B L v bs w) : w.cell? ⟨L, 0, none⟩ = some v := by
  unfold World.cell?; rw [h.blk]; rfl
theorem LineAt.cell1 {B L : Nat} {v : Value} {bs : List UInt8} {w : World} (h : LineAt B L v bs w) : w.cell? ⟨L, 1, none⟩ = some (.int .i64 0) := by
  unfold World.cell?; rw [h.blk]; rfl
theorem LineAt.cell2 {B L : Nat} {v : Value} {bs : List UInt8} {w : World} (h : LineAt B L v bs w) : w.cell? ⟨L, 2, none⟩ = some .nilIface := by
  unfold World.cell?; rw [h.blk]; rfl
theorem LineAt.frozen0 {B L : Nat} {v : Value} {bs : List UInt8} {w : World} (h : LineAt B L v bs w) : w.frozen? ⟨L, 0, none⟩ = false := by
  unfold World.frozen?; rw [h.blk]; rfl


theorem own_ne {w : World} {B L n : Nat} {v : Value} {xs : List Value} {c : Array Value} (h : w.heap[L]? = some (.cells c 68)) (ho : w.ownsRow B 5 1 v n xs) : v.ownBlock ≠ some L := by
  rcases ho.2 with ⟨rfl, _⟩ | ⟨g, cap, cur, rfl, _, hg, _⟩
  · simp [Value.ownBlock]
  · simp only [Value.ownBlock, ne_eq, Option.some.injEq]
    rintro rfl
    rw [h] at hg
    cases hg

theorem LineAt.lt {B L : Nat} {v : Value} {bs : List UInt8} {w : World} (h : LineAt B L v bs w) : L < w.heap.size := (Array.getElem?_eq_some_iff.1 h.blk).1

theorem LineAt.alloc {B L : Nat} {v : Value} {bs : List UInt8} {w : World} (h : LineAt B L v bs w) (o : Obj) : LineAt B L v bs (w.alloc o) :=
  ⟨(Below.heap_alloc w o L h.lt).trans h.blk, h.own.alloc o, h.low, h.nn⟩

/-- Between the append and the store: the struct still holds the old slice. -/
structure Mid (B L : Nat) (v v' : Value) (bs : List UInt8) (w0 w : World) : Prop where
  blk : w.heap[L]? = some (.cells #[v, .int .i64 0, .nilIface] 68)
  own : w.ownsRow B 5 1 v' bs.length (byteCells bs)
  low : B ≤ L
  nn : v' ≠ .slice none 0 0
  bel : Below B w0 w

theorem LineAt.mid {B L : Nat} {v v' : Value} {bs ns : List UInt8} {w w1 : World} (h : LineAt B L v bs w) (hB : B ≤ w.heap.size) (hg : w.grownBy w1 v.ownBlock) (ho : w1.ownsRow B 5 1 v' (bs ++ ns).length (byteCells (bs ++ ns)))
    (hn : v' = .slice none 0 0 → v = .slice none 0 0) : Mid B L v v' (bs ++ ns) w w1 :=
  ⟨(hg.block L h.lt (fun e => own_ne h.blk h.own e.symm)).trans h.blk, ho, h.low, fun e => h.nn (hn e), (Below.refl B w).grown hg hB (fun k hk => (h.own.lt k hk).1)⟩

theorem Mid.cell0 {B L : Nat} {v v' : Value} {bs : List UInt8} {w0 w : World} (h : Mid B L v v' bs w0 w) : w.cell? ⟨L, 0, none⟩ = some v := by
  unfold World.cell?; rw [h.blk]; rfl
theorem Mid.frozen0 {B L : Nat} {v v' : Value} {bs : List UInt8} {w0 w : World} (h : Mid B L v v' bs w0 w) : w.frozen? ⟨L, 0, none⟩ = false := by
  unfold World.frozen?; rw [h.blk]; rfl

theorem Mid.done {B L : Nat} {v v' : Value} {bs : List UInt8} {w0 w : World} (h : Mid B L v v' bs w0 w) : LineAt B L v' bs (w.setCell ⟨L, 0, none⟩ v') ∧ Below B w0 (w.setCell ⟨L, 0, none⟩ v') := by
  have hne := own_ne h.blk h.own
  have hl : L < w.heap.size := (Array.getElem?_eq_some_iff.1 h.blk).1
  refine ⟨⟨?_, ?_, h.low, h.nn⟩, h.bel.setCell h.low _⟩
  · have hx := h.blk
    unfold World.setCell
    simp only [Array.getElem?_modify, if_pos, hx]
    rfl
  · refine ⟨h.own.1, ?_⟩
    rcases h.own.2 with h1 | ⟨g, cap, cur, rfl, h1, h2, h3⟩
    · exact .inl h1
    · refine .inr ⟨g, cap, cur, rfl, h1, ?_, h3⟩
      rw [Below.heap_setCell _ _ _ _ (fun e => hne (by simp [Value.ownBlock, e]))]
      exact h2

theorem bc_app (a b : List UInt8) : byteCells a ++ byteCells b = byteCells (a ++ b) := by simp [byteCells]
theorem strC (s : ByteArray) : strCells s = byteCells s.data.toList := by simp [strCells, byteCells]

theorem LineAt.midS {B L : Nat} {v v' : Value} {bs : List UInt8} {w w1 : World} (s : ByteArray) (h : LineAt B L v bs w) (hB : B ≤ w.heap.size) (ho : w1.ownsRow B 5 1 v' (bs.length + s.size) (byteCells bs ++ strCells s)) (hg : w.grownBy w1 v.ownBlock)
    (hn : v' = .slice none 0 0 ↔ v = .slice none 0 0 ∧ s.size = 0) : Mid B L v v' (bs ++ s.data.toList) w w1 := by
  refine h.mid hB hg ?_ (fun e => (hn.1 e).1)
  rw [strC, bc_app, size_eq] at ho
  rw [List.length_append]; exact ho

theorem LineAt.midC {B L : Nat} {v v' : Value} {bs : List UInt8} {w w1 : World} (c : UInt8) (h : LineAt B L v bs w) (hB : B ≤ w.heap.size) (ho : w1.ownsRow B 5 1 v' (bs.length + 1) (byteCells bs ++ [.int .u8 c.toNat])) (hg : (w.alloc (.cells #[.int .u8 c.toNat] 5)).grownBy w1 v.ownBlock)
    (hn : v' = .slice none 0 0 ↔ v = .slice none 0 0 ∧ 1 = 0) : Mid B L v v' (bs ++ [c]) w w1 := by
  have h1 := h.alloc (.cells #[.int .u8 c.toNat] 5)
  have hB1 : B ≤ (w.alloc (.cells #[.int .u8 c.toNat] 5)).heap.size := Nat.le_trans hB ((Below.refl 0 w).alloc (Nat.zero_le _) _).size
  have m : Mid B L v v' (bs ++ [c]) (w.alloc (.cells #[.int .u8 c.toNat] 5)) w1 := h1.mid hB1 hg (by
    rw [show [Value.int .u8 c.toNat] = byteCells [c] from rfl, bc_app] at ho
    rw [List.length_append]; exact ho) (fun e => (hn.1 e).1)
  exact ⟨m.blk, m.own, m.low, m.nn, ((Below.refl B w).alloc hB _).trans m.bel⟩



/-- The slice's shape. -/
theorem Mid.shape {B L n : Nat} {v v' : Value} {bs : List UInt8} {w0 w : World} (h : Mid B L v v' bs w0 w) (hn : bs.length = n) : ∃ g cap, v' = .slice (some ⟨g, 0, none⟩) n cap := by
  subst hn
  rcases h.own.2 with ⟨h1, _⟩ | ⟨g, cap, cur, h1, _⟩
  · exact absurd h1 h.nn
  · exact ⟨g, cap, h1⟩

/-- What a method of the line leaves. -/
def Wrote (B L : Nat) (bs : List UInt8) (w : World) (e : Ending) (w' : World) : Prop :=
  e = .returned (.tuple #[]) ∧ ∃ g cap, LineAt B L (.slice (some ⟨g, 0, none⟩) bs.length cap) bs w' ∧ Below B w w'

theorem Mid.wrote {B L n g cap : Nat} {v : Value} {bs : List UInt8} {w0 wa w : World} (h : Mid B L v (.slice (some ⟨g, 0, none⟩) n cap) bs w0 w) (hb : Below B wa w0) (hn : bs.length = n) :
    Wrote B L bs wa (.returned (.tuple #[])) (w.setCell ⟨L, 0, none⟩ (.slice (some ⟨g, 0, none⟩) n cap)) := by
  subst hn
  exact ⟨rfl, g, cap, h.done.1, hb.trans h.done.2⟩

theorem one_u8 (n : Int) : ∀ u ∈ [Value.int .u8 n], u.oneCell' = true := by intro u hu; simp at hu; subst hu; rfl
theorem len_c' (bs : List UInt8) (c : UInt8) : (bs ++ [c]).length = bs.length + 1 := by rw [List.length_append]; rfl
theorem len_s (bs : List UInt8) (s : ByteArray) : (bs ++ s.data.toList).length = bs.length + s.size := by rw [List.length_append, size_eq]
theorem len_sc (bs : List UInt8) (s : ByteArray) (c : UInt8) : (bs ++ s.data.toList ++ [c]).length = bs.length + s.size + 1 := by rw [len_c', len_s]
theorem len_c (bs : List UInt8) (c : UInt8) : (bs ++ [c]).length = bs.length + 1 := by rw [List.length_append]; rfl

set_option maxRecDepth 100000 in
set_option maxHeartbeats 400000 in
theorem word_any {B L g cap : Nat} {bs : List UInt8} {w : World} (s : ByteArray) (h : LineAt B L (.slice (some ⟨g, 0, none⟩) bs.length cap) bs w) (hs : plain s.data.toList) (h0 : s.toList.isEmpty = false) (hz : s.size ≤ 1048576) (hn : bs.length ≤ 100000000) (hB : B ≤ w.heap.size) :
    Calls Tryf.prog 51 #[.pointer (some ⟨L, 0, none⟩), .string s] w fun e w' => Wrote B L (bs ++ s.data.toList) w e w' := by
  have c0 := h.cell0
  obtain ⟨i0, hi, hz0, hz1, hz2⟩ := info_parts Tryf.info5
  go_enter Tryf.func51, Tryf.ntmps51
  go_wp2_with (first
    | (go_at_call 45; refine (wplain_any s w hs).mono ?_; rintro e w' ⟨rfl, rfl⟩)
    | (at_builtin; refine wpList_append_own_string _ rfl _ _ 22 9 rfl B 5 i0 Tryf.underlying22 Tryf.underlying9 hi hz0 hz1 hz2 _ bs.length _ rfl h.own s rfl (by unfold maxLen; omega) (by omega) hB ?_
       intro v1 w1 ho1 hg1 hn1; have M := h.midS s hB ho1 hg1 hn1; clear ho1 hg1 hn1; obtain ⟨g1, cap1, rfl⟩ := M.shape (len_s _ _); have f1 := M.frozen0; have c1 := M.cell0))
  go_end0
  exact M.wrote (Below.refl _ _) (len_s _ _)

theorem LineAt.drewN {B L : Nat} {v : Value} {bs : List UInt8} {w : World} (h : LineAt B L v bs w) (q : Nat) : LineAt B L v bs (w.drewN q) := ⟨h.blk, h.own, h.low, h.nn⟩
theorem below_drewN (B : Nat) (w : World) (q : Nat) : Below B w (w.drewN q) := ⟨rfl, rfl, rfl, Nat.le_refl _, fun _ _ => rfl⟩

set_option maxRecDepth 100000 in
set_option maxHeartbeats 400000 in
theorem sep_any {B L g cap : Nat} {bs : List UInt8} {w : World} (h : LineAt B L (.slice (some ⟨g, 0, none⟩) bs.length cap) bs w) (h0 : 0 < bs.length) (hn : bs.length ≤ 100000000) (hB : B ≤ w.heap.size) :
    Calls Tryf.prog 44 #[.pointer (some ⟨L, 0, none⟩)] w fun e w' => Wrote B L (bs ++ [32]) w e w' := by
  have c0 := h.cell0
  have c1 := h.cell1
  obtain ⟨i0, hi, hz0, hz1, hz2⟩ := info_parts Tryf.info5
  go_enter Tryf.func44, Tryf.ntmps44
  go_wp2_with fail
  go_quiet (fail)
  go_wp2_with (first
    | (at_builtin; refine wpList_append_own _ rfl _ _ 22 rfl B 5 i0 (.int .u8 0) 1 1 Tryf.underlying22 hi hz0 hz1 hz2 rfl (by decide) _ bs.length _ rfl ((h.drewN _).own.alloc _) ⟨w.heap.size, 0, none⟩ 1 1 [.int .u8 32] rfl rfl (cell_one_new _ _ _) (one_u8 _) (by unfold maxLen; omega) (by omega) (Nat.le_trans hB (by simp)) ?_
       intro v1 w1 ho1 hg1 hn1; have M := (h.drewN nq).midC 32 hB ho1 hg1 hn1; clear ho1 hg1 hn1; obtain ⟨g1, cap1, rfl⟩ := M.shape (len_c _ _); have f1 := M.frozen0; have c1 := M.cell0))
  go_end0
  exact M.wrote (below_drewN _ _ _) (len_c _ _)

theorem size_set (w : World) (a : Addr) (v : Value) : (w.setCell a v).heap.size = w.heap.size := by simp [World.setCell]
theorem cell_one_set (w : World) (a : Addr) (v x : Value) (t : TypeId) : ∀ j u, [x][j]? = some u → ((w.setCell a v).alloc (.cells #[x] t)).cell? ((⟨w.heap.size, 0, none⟩ : Addr).add j) = some u := by
  have := cell_one_new (w.setCell a v) x t
  rwa [size_set] at this

set_option maxRecDepth 100000 in
set_option maxHeartbeats 400000 in
theorem key_any {B L g cap : Nat} {bs : List UInt8} {w : World} (s : ByteArray) (h : LineAt B L (.slice (some ⟨g, 0, none⟩) bs.length cap) bs w) (h0 : 0 < bs.length) (hz : s.size ≤ 1048576) (hn : bs.length ≤ 90000000) (hB : B ≤ w.heap.size) :
    Calls Tryf.prog 48 #[.pointer (some ⟨L, 0, none⟩), .string s] w fun e w' => Wrote B L (bs ++ [32] ++ s.data.toList ++ [61]) w e w' := by
  obtain ⟨i0, hi, hz0, hz1, hz2⟩ := info_parts Tryf.info5
  have hna : (bs ++ [32]).length ≤ bs.length + 1 := Nat.le_of_eq (len_c bs 32)
  obtain ⟨al, HA⟩ : ∃ al, Hid (bs ++ [32] = al) := ⟨bs ++ [32], show bs ++ [32] = _ from rfl⟩
  rw [HA.out] at hna ⊢
  go_enter Tryf.func48, Tryf.ntmps48
  go_wp2_with fail
  go_at_call 44
  refine (sep_any h h0 (by omega) hB).mono ?_
  rintro e wa ⟨rfl, ga, capa, ha, hba⟩
  rw [HA.out] at ha
  have c0 := ha.cell0
  have hBa := Nat.le_trans hB hba.size
  clear h
  go_wp2_with (first
    | (at_builtin; refine wpList_append_own_string _ rfl _ _ 22 9 rfl B 5 i0 Tryf.underlying22 Tryf.underlying9 hi hz0 hz1 hz2 _ al.length _ rfl ha.own s rfl (by unfold maxLen; omega) (by omega) hBa ?_
       intro v1 w1 ho1 hg1 hn1; have M := ha.midS s hBa ho1 hg1 hn1; clear ho1 hg1 hn1; obtain ⟨g1, cap1, rfl⟩ := M.shape (len_s _ _); have f1 := M.frozen0; have c1 := M.cell0; have D := M.done; have hB1 := Nat.le_trans hBa D.2.size)
    | (at_builtin; refine wpList_append_own _ rfl (.tmp 19) (.tmp 20) 22 rfl B 5 i0 (.int .u8 0) 1 1 Tryf.underlying22 hi hz0 hz1 hz2 rfl (by decide) _ (al ++ s.data.toList).length _ rfl (D.1.own.alloc _) ⟨w1.heap.size, 0, none⟩ 1 1 [.int .u8 61] rfl rfl (cell_one_set _ _ _ _ _) (one_u8 _) (by rw [len_s]; unfold maxLen; omega) (by rw [len_s]; omega) (Nat.le_trans hB1 (by simp)) ?_
       intro v2 w2 ho2 hg2 hn2; have M2 := D.1.midC 61 hB1 ho2 hg2 hn2; clear ho2 hg2 hn2; obtain ⟨g2, cap2, rfl⟩ := M2.shape (len_sc _ _ _); have f2 := M2.frozen0; have c2 := M2.cell0))
  go_end0
  exact M2.wrote (hba.trans D.2) (len_sc _ _ _)

/-- text of an empty value: nothing. -/
theorem text_none {w : World} (p s : Value) (hp : ∃ L : Nat, p = .pointer (some ⟨L, 0, none⟩)) (hs : ∃ k : ByteArray, s = .string k) :
    Calls Tryf.prog 35 #[p, s, .string ⟨#[]⟩] w fun e w' => e = .returned (.tuple #[]) ∧ w = w' := by
  obtain ⟨L, rfl⟩ := hp
  obtain ⟨k, rfl⟩ := hs
  go_enter Tryf.func35, Tryf.ntmps35
  go_wp2
  refine bodyPost_ret (results_none rfl _ _ _) rfl ?_
  exact ⟨rfl, rfl⟩

set_option maxRecDepth 100000 in
set_option maxHeartbeats 400000 in
theorem text_any {B L g cap : Nat} {bs : List UInt8} {w : World} (k s : ByteArray) (h : LineAt B L (.slice (some ⟨g, 0, none⟩) bs.length cap) bs w) (h0 : 0 < bs.length) (hp : plain s.data.toList) (hs0 : s.toList.isEmpty = false) (hk : k.size ≤ 100) (hz : s.size ≤ 1048576) (hn : bs.length ≤ 80000000) (hB : B ≤ w.heap.size) :
    Calls Tryf.prog 35 #[.pointer (some ⟨L, 0, none⟩), .string k, .string s] w fun e w' => Wrote B L (bs ++ [32] ++ k.data.toList ++ [61] ++ s.data.toList) w e w' := by
  obtain ⟨i0, hi, hz0, hz1, hz2⟩ := info_parts Tryf.info5
  have hna : (bs ++ [32] ++ k.data.toList ++ [61]).length ≤ bs.length + 1 + k.size + 1 := by rw [len_c, len_s, len_c]; exact Nat.le_refl _
  obtain ⟨al, HA⟩ : ∃ al, Hid (bs ++ [32] ++ k.data.toList ++ [61] = al) := ⟨bs ++ [32] ++ k.data.toList ++ [61], show bs ++ [32] ++ k.data.toList ++ [61] = _ from rfl⟩
  rw [HA.out] at hna ⊢
  go_enter Tryf.func35, Tryf.ntmps35
  go_wp2_with (go_at_call 45; refine (wplain_any s w hp).mono ?_; rintro e w' ⟨rfl, rfl⟩)
  go_at_call 48
  refine (key_any k h h0 (by omega) (by omega) hB).mono ?_
  rintro e wa ⟨rfl, ga, capa, ha, hba⟩
  rw [HA.out] at ha
  have c0 := ha.cell0
  have hBa := Nat.le_trans hB hba.size
  clear h
  go_wp2_with (at_builtin; refine wpList_append_own_string _ rfl _ _ 22 9 rfl B 5 i0 Tryf.underlying22 Tryf.underlying9 hi hz0 hz1 hz2 _ al.length _ rfl ha.own s rfl (by unfold maxLen; omega) (by omega) hBa ?_
               intro v1 w1 ho1 hg1 hn1; have M := ha.midS s hBa ho1 hg1 hn1; clear ho1 hg1 hn1; obtain ⟨g1, cap1, rfl⟩ := M.shape (len_s _ _); have f1 := M.frozen0; have c1 := M.cell0)
  go_end0
  exact M.wrote hba (len_s _ _)

theorem set1 {W : World} {L : Nat} {a b c x : Value} (h : W.heap[L]? = some (.cells #[a, b, c] 68)) : (W.setCell ⟨L, 1, none⟩ x).heap[L]? = some (.cells #[a, x, c] 68) := by
  unfold World.setCell
  simp only [Array.getElem?_modify, if_pos, h]
  rfl

set_option maxRecDepth 100000 in
set_option maxHeartbeats 400000 in
/-- end: the line feed, and 'start' behind it. What is left is told of the bytes alone. -/
theorem end_any {B L g cap : Nat} {bs : List UInt8} {w : World} (h : LineAt B L (.slice (some ⟨g, 0, none⟩) bs.length cap) bs w) (hn : bs.length ≤ 100000000) (hB : B ≤ w.heap.size) :
    Calls Tryf.prog 55 #[.pointer (some ⟨L, 0, none⟩)] w fun e w' => e = .returned (.tuple #[]) ∧ Below B w w' ∧ ∃ g' cap', w'.ownsRow B 5 1 (.slice (some ⟨g', 0, none⟩) (bs.length + 1) cap') (bs.length + 1) (byteCells (bs ++ [10])) ∧
      w'.cell? ⟨L, 0, none⟩ = some (.slice (some ⟨g', 0, none⟩) (bs.length + 1) cap') ∧ w'.cell? ⟨L, 2, none⟩ = some .nilIface := by
  have c0 := h.cell0
  obtain ⟨i0, hi, hz0, hz1, hz2⟩ := info_parts Tryf.info5
  go_enter Tryf.func55, Tryf.ntmps55
  go_wp2_with (at_builtin; refine wpList_append_own _ rfl _ _ 22 rfl B 5 i0 (.int .u8 0) 1 1 Tryf.underlying22 hi hz0 hz1 hz2 rfl (by decide) _ bs.length _ rfl (h.own.alloc _) ⟨w.heap.size, 0, none⟩ 1 1 [.int .u8 10] rfl rfl (cell_one_new _ _ _) (one_u8 _) (by unfold maxLen; omega) (by omega) (Nat.le_trans hB (by simp)) ?_
               intro v1 w1 ho1 hg1 hn1; have M := h.midC 10 hB ho1 hg1 hn1; clear ho1 hg1 hn1; obtain ⟨g1, cap1, rfl⟩ := M.shape (len_c _ _); have f1 := M.frozen0; have c1 := M.cell0; have D := M.done; have d1 : w1.cell? ⟨L, 1, none⟩ = some (.int .i64 0) := by { unfold World.cell?; rw [M.blk]; rfl }; have f2 : w1.frozen? ⟨L, 1, none⟩ = false := by unfold World.frozen?; rw [M.blk]; rfl)
  go_end0
  have hbel := D.2.setCell (p := ⟨L, 1, none⟩) h.low (.int .i64 ((bs.length : Int) + 1))
  have hL := h.low
  refine ⟨rfl, hbel, g1, cap1, ?_, ?_, ?_⟩
  · have ho := D.1.own
    rw [len_c] at ho
    have hne := own_ne D.1.blk D.1.own
    refine ⟨ho.1, ?_⟩
    rcases ho.2 with ⟨h1, _⟩ | ⟨g, cap, cur, h0, h1, h2, h3⟩
    · cases h1
    · refine .inr ⟨g, cap, cur, h0, h1, ?_, h3⟩
      rw [Below.heap_setCell _ _ _ _ (fun e => hne (by rw [h0]; simp [Value.ownBlock, e]))]
      exact h2
  · unfold World.cell?
    rw [set1 D.1.blk]
    rfl
  · unfold World.cell?
    rw [set1 D.1.blk]
    rfl
end Go.Proofs.Qxb6606000aFmt.W
