import Derived.Test.Qxb6606073aRp
import Derived.Test.Qxb6606073aRn
import Derived.Maps.AppendAt
namespace Go.Proofs.Qxb6606073a.W
open Go.RowKit
set_option linter.unusedVariables false
set_option linter.unusedSimpArgs false

theorem idx_r {G R i j l : Nat} (hl : l < R) : ((i * G + j) * R + l) % R = l := by
  rw [Nat.mul_comm, Nat.mul_add_mod]
  exact Nat.mod_eq_of_lt hl
theorem idx_q {G R i j l : Nat} (hl : l < R) : ((i * G + j) * R + l) / R = i * G + j := by
  rw [Nat.mul_comm, Nat.mul_add_div (by omega), Nat.div_eq_of_lt hl, Nat.add_zero]
theorem idx_g {G R i j l : Nat} (hj : j < G) (hl : l < R) : (((i * G + j) * R + l) / R) % G = j := by
  rw [idx_q hl, Nat.mul_comm, Nat.mul_add_mod]
  exact Nat.mod_eq_of_lt hj
theorem idx_v {G R i j l : Nat} (hj : j < G) (hl : l < R) : ((i * G + j) * R + l) / (G * R) = i := by
  rw [Nat.mul_comm G R, ← Nat.div_div_eq_div_mul, idx_q hl, Nat.mul_comm, Nat.mul_add_div (by omega), Nat.div_eq_of_lt hj, Nat.add_zero]
theorem idx_lt {V G R i j l : Nat} (hi : i < V) (hj : j < G) (hl : l < R) : (i * G + j) * R + l < V * G * R := by
  have h1 : i * G + j + 1 ≤ V * G := by
    have := Nat.mul_le_mul_right G (show i + 1 ≤ V by omega)
    rw [Nat.add_mul, Nat.one_mul] at this
    omega
  have h2 := Nat.mul_le_mul_right R h1
  rw [Nat.add_mul, Nat.one_mul] at h2
  omega

/-- The p-th element that was appended. -/
structure TripOk (d : Rd) (e x : El) (p : Nat) (w : World) : Prop where
  s0 : OwnS x.c0 [d.v.getD (p / (d.g.length * d.r.length)) ByteArray.empty] w
  s1 : OwnS x.c1 [d.g.getD ((p / d.r.length) % d.g.length) ByteArray.empty] w
  s2 : OwnS x.c2 [d.r.getD (p % d.r.length) ByteArray.empty] w
  s3 : OwnS x.c3 d.n w
  nil : x.c3 = .slice none 0 0 ↔ d.n = []
  s4 : x.c4 = e.c4
  an : x.an = e.an

theorem TripOk.keep {d : Rd} {e x : El} {p : Nat} {w w' : World} (h : TripOk d e x p w) (k : Keep 34 w w') : TripOk d e x p w' :=
  ⟨h.s0.keep k (by decide), h.s1.keep k (by decide), h.s2.keep k (by decide), h.s3.keep k (by decide), h.nil, h.s4, h.an⟩

structure Stt (base : Nat) (d : Rd) (e : El) (es0 : List El) (w0 : World) (h : Nat) (out : Value) (ts : List El) (w : World) : Prop where
  own : w.ownsRow base 34 6 out (es0 ++ ts).length (flat (es0 ++ ts))
  off : out.ownBlock ≠ some h
  box : w.heap[h]? = some (.cells #[e.c0, e.c1, e.c2, e.c3, e.c4, .bool e.an] 34 (0, 0))
  sc : w.heap[h + 1]? = some (.cells #[.slice none 0 0] 63 (0, 0))
  keep : Keep 34 w0 w
  bel : Below base w0 w
  rule : OwnE e d w
  hist : ∀ (p : Nat) x, ts[p]? = some x → TripOk d e x p w
  hb : base ≤ w0.heap.size

theorem grown_of_below {w w' : World} (hb : Below w.heap.size w w') (row : Option Nat) : w.grownBy w' row := ⟨hb.os, hb.tape, hb.output, hb.size, fun k hk _ => hb.block k hk⟩

theorem Stt.below {base : Nat} {d : Rd} {e : El} {es0 : List El} {w0 : World} {h : Nat} {out : Value} {ts : List El} {w w' : World} (s : Stt base d e es0 w0 h out ts w) (hb : Below w.heap.size w w') : Stt base d e es0 w0 h out ts w' := by
  have k : Keep 34 w w' := Keep.of hb
  refine ⟨s.own.kept (row := none) (grown_of_below hb none) (by cases hv : out.ownBlock <;> simp), s.off, (hb.block h (Array.getElem?_eq_some_iff.1 s.box).1).trans s.box, (hb.block _ (Array.getElem?_eq_some_iff.1 s.sc).1).trans s.sc, s.keep.trans k, s.bel.trans (hb.mono (Nat.le_trans s.hb s.bel.size)), s.rule.keep k (by decide), fun p x hx => (s.hist p x hx).keep k, s.hb⟩

theorem Stt.append {base : Nat} {d : Rd} {e : El} {es0 : List El} {w0 : World} {h : Nat} {out out' : Value} {ts : List El} {w w' : World} {x : El} (s : Stt base d e es0 w0 h out ts w)
    (ho : w'.ownsRow base 34 6 out' ((es0 ++ ts).length + 1) (flat (es0 ++ ts) ++ x.cells)) (hg : w.grownBy w' out.ownBlock) (hat : out'.ownBlock = out.ownBlock ∨ out'.ownBlock = some w.heap.size) (hx : TripOk d e x ts.length w) :
    Stt base d e es0 w0 h out' (ts ++ [x]) w' := by
  have hh := (Array.getElem?_eq_some_iff.1 s.box).1
  have k : Keep 34 w w' := fun g cur t fr ht hgg => by
    rw [hg.block g (Array.getElem?_eq_some_iff.1 hgg).1 (fun e1 => ?_)]
    · exact hgg
    · rcases s.own.2 with ⟨e2, _⟩ | ⟨g2, cap, cur2, e2, _, e3, _⟩
      · rw [e2] at e1; simp [Value.ownBlock] at e1
      · rw [e2] at e1
        simp [Value.ownBlock] at e1
        subst e1
        rw [e3] at hgg
        cases hgg
        exact ht rfl
  refine ⟨?_, ?_, ?_, k _ _ _ _ (by decide) s.sc, s.keep.trans k, s.bel.grown hg (Nat.le_trans s.hb s.bel.size) (fun j hj => (s.own.lt j hj).1), s.rule.keep k (by decide), ?_, s.hb⟩
  · rw [← List.append_assoc]
    have e1 : (es0 ++ ts ++ [x]).length = (es0 ++ ts).length + 1 := by rw [List.length_append]; rfl
    have e2 : flat (es0 ++ ts ++ [x]) = flat (es0 ++ ts) ++ x.cells := by
      rw [flat_append]
      unfold flat
      simp
    rw [e1, e2]
    exact ho
  · rcases hat with e1 | e1
    · rw [e1]; exact s.off
    · rw [e1]; intro e2; cases e2; omega
  · rw [hg.block h hh (fun e1 => s.off e1.symm)]; exact s.box
  · intro p y hy
    by_cases hp : p < ts.length
    · rw [List.getElem?_append_left hp] at hy
      exact (s.hist p y hy).keep k
    · have := (List.getElem?_eq_some_iff.1 hy).1
      simp at this
      obtain rfl : p = ts.length := by omega
      simp at hy
      subst hy
      exact hx.keep k

theorem OwnS.cell {ao : Option Addr} {n cap : Nat} {ss : List ByteArray} {w : World} (h : OwnS (.slice ao n cap) ss w) {i : Nat} (hi : i < ss.length) : ∃ g, ao = some ⟨g, 0, none⟩ ∧ w.cell? ⟨g, i, none⟩ = some (.string (ss.getD i ByteArray.empty)) := by
  rcases h with ⟨_, h⟩ | ⟨g, cap', cur, h1, h2, h3, h4, h5, h6⟩
  · subst h; cases hi
  · cases h1
    refine ⟨g, rfl, ?_⟩
    rw [heap_cell h4]
    exact h5 i hi

theorem OwnS.one {w : World} {g : Nat} {s : ByteArray} (h : w.heap[g]? = some (.cells #[.string s] 9 (0, 0))) (hs : s.size ≤ maxLen) : OwnS (.slice (some ⟨g, 0, none⟩) 1 1) [s] w :=
  .inr ⟨g, 1, _, rfl, Nat.le_refl _, by decide, h, fun i hi => by
    have : i = 0 := by simpa using hi
    subst this
    rfl, fun x hx => by simp at hx; subst hx; exact hs⟩

def strs (ss : List ByteArray) : List Value := ss.map Value.string

theorem strs_take {ss : List ByteArray} {k : Nat} (h : k < ss.length) : strs (ss.take (k + 1)) = strs (ss.take k) ++ [.string (ss.getD k ByteArray.empty)] := by
  unfold strs
  have e : ss.take (k + 1) = ss.take k ++ [ss.getD k ByteArray.empty] := by
    rw [List.take_add_one, List.getElem?_eq_getElem h]
    simp [List.getD, h]
  rw [e, List.map_append]
  rfl

theorem OwnS.of_owns {base n : Nat} {v : Value} {ss : List ByteArray} {w : World} (h : w.ownsRow base 9 1 v n (strs ss)) (hs : ∀ s ∈ ss, s.size ≤ maxLen) (hn : n = ss.length) : OwnS v ss w := by
  subst hn
  rcases h.2 with ⟨rfl, h0⟩ | ⟨g, cap, cur, rfl, hb, hg, hc, hm, hsz, ht⟩
  · exact .inl ⟨rfl, List.eq_nil_of_length_eq_zero h0⟩
  · refine .inr ⟨g, cap, cur, rfl, hc, hm, hg, fun i hi => ?_, hs⟩
    have e : (strs ss)[i]? = some (.string (ss.getD i ByteArray.empty)) := by
      unfold strs
      simp [hi, List.getD]
    rw [← ht, List.getElem?_take, if_pos (by omega)] at e
    simpa using e

theorem OwnS.sizes {ns : Value} {ss : List ByteArray} {w : World} (h : OwnS ns ss w) : ∀ i, i < ss.length → (ss.getD i ByteArray.empty).size ≤ maxLen := by
  intro i hi
  rcases h with ⟨_, h⟩ | ⟨g, cap', cur, h1, h2, h3, h4, h5, h6⟩
  · subst h; cases hi
  · exact getD_size h6 i hi
end Go.Proofs.Qxb6606073a.W
namespace Go.Proofs.Qxb6606073a.W
open Go.RowKit
theorem own_bel {base n sz : Nat} {T : TypeId} {v : Value} {xs : List Value} {w w' : World} (h : w.ownsRow base T sz v n xs) (hb : Below w.heap.size w w') : w'.ownsRow base T sz v n xs :=
  h.kept (row := none) (grown_of_below hb none) (by cases hv : v.ownBlock <;> simp)

theorem below_four (w : World) (A B C D : Obj) : Below w.heap.size w ((((w.alloc A).alloc B).alloc C).alloc D) :=
  ((((Below.refl _ _).alloc (Nat.le_refl _) A).alloc (by simp) B).alloc (by simp; omega) C).alloc (by simp; omega) D

theorem four0 (w : World) (A B C D : Obj) : ((((w.alloc A).alloc B).alloc C).alloc D).heap[w.heap.size]? = some A := by
  show ((((w.heap.push A).push B).push C).push D)[w.heap.size]? = _
  rw [Array.getElem?_push, if_neg (by simp; omega), Array.getElem?_push, if_neg (by simp; omega), Array.getElem?_push, if_neg (by simp), Array.getElem?_push, if_pos rfl]
theorem four1 (w : World) (A B C D : Obj) : ((((w.alloc A).alloc B).alloc C).alloc D).heap[w.heap.size + 1]? = some B := by
  show ((((w.heap.push A).push B).push C).push D)[w.heap.size + 1]? = _
  rw [Array.getElem?_push, if_neg (by simp), Array.getElem?_push, if_neg (by simp), Array.getElem?_push, if_pos (by simp)]
theorem four2 (w : World) (A B C D : Obj) : ((((w.alloc A).alloc B).alloc C).alloc D).heap[w.heap.size + 1 + 1]? = some C := by
  show ((((w.heap.push A).push B).push C).push D)[w.heap.size + 1 + 1]? = _
  rw [Array.getElem?_push, if_neg (by simp), Array.getElem?_push, if_pos (by simp)]
theorem four3 (w : World) (A B C D : Obj) : ((((w.alloc A).alloc B).alloc C).alloc D).heap[w.heap.size + 1 + 1 + 1]? = some D := by
  show ((((w.heap.push A).push B).push C).push D)[w.heap.size + 1 + 1 + 1]? = _
  rw [Array.getElem?_push, if_pos (by simp)]

theorem cell6_one (e : El) (h : Sl e) : ∀ u ∈ e.cells, u.oneCell' = true := by
  obtain ⟨a0, i0, k0, a1, i1, k1, a2, i2, k2, a3, i3, k3, a4, i4, k4, h⟩ := h
  rw [h]
  intro u hu
  simp [El.cells] at hu
  rcases hu with rfl | rfl | rfl | rfl | rfl | rfl <;> rfl

/-- The element that is appended. -/
abbrev xEl (w : World) (nm b : Value) (an : Bool) : El := ⟨.slice (some ⟨w.heap.size, 0, none⟩) 1 1, .slice (some ⟨w.heap.size + 1, 0, none⟩) 1 1, .slice (some ⟨w.heap.size + 1 + 1, 0, none⟩) 1 1, nm, b, an⟩
abbrev xW (w : World) (v u x : ByteArray) (nm b : Value) (an : Bool) : World :=
  (((w.alloc (.cells #[.string v] 9)).alloc (.cells #[.string u] 9)).alloc (.cells #[.string x] 9)).alloc (.cells #[.slice (some ⟨w.heap.size, 0, none⟩) 1 1, .slice (some ⟨w.heap.size + 1, 0, none⟩) 1 1, .slice (some ⟨w.heap.size + 1 + 1, 0, none⟩) 1 1, nm, b, .bool an] 34)

theorem Stt.grownKeep {base : Nat} {d : Rd} {e : El} {es0 : List El} {w0 : World} {h : Nat} {out : Value} {ts : List El} {w w' : World} (s : Stt base d e es0 w0 h out ts w) (hg : w.grownBy w' out.ownBlock) : Keep 34 w w' := fun g cur t fr ht hgg => by
  rw [hg.block g (Array.getElem?_eq_some_iff.1 hgg).1 (fun e1 => ?_)]
  · exact hgg
  · rcases s.own.2 with ⟨e2, _⟩ | ⟨g2, cap, cur2, e2, _, e3, _⟩
    · rw [e2] at e1; simp [Value.ownBlock] at e1
    · rw [e2] at e1
      simp [Value.ownBlock] at e1
      subst e1
      rw [e3] at hgg
      cases hgg
      exact ht rfl

theorem xOne (w : World) (a3 a4 : Option Addr) (n3 k3 n4 k4 : Nat) (an : Bool) : ∀ u ∈ (xEl w (.slice a3 n3 k3) (.slice a4 n4 k4) an).cells, u.oneCell' = true :=
  cell6_one _ ⟨_, _, _, _, _, _, _, _, _, _, _, _, _, _, _, rfl⟩

theorem xNews (w : World) (v u x : ByteArray) (nm b : Value) (an : Bool) : ∀ (j : Nat) y, (xEl w nm b an).cells[j]? = some y → (xW w v u x nm b an).cell? ((⟨w.heap.size + 1 + 1 + 1, 0, none⟩ : Addr).add j) = some y := by
  intro j y hy
  rw [Addr.add_mid, Nat.zero_add, heap_cell (four3 w _ _ _ _)]
  rw [← hy]
  match j with
  | 0 => rfl
  | 1 => rfl
  | 2 => rfl
  | 3 => rfl
  | 4 => rfl
  | 5 => rfl
  | j + 6 => simp [El.cells]

theorem xTrip {d : Rd} {e : El} {i j l p : Nat} {v u x : ByteArray} {nm : Value} {w : World} (hj : j < d.g.length) (hl : l < d.r.length) (hp : p = (i * d.g.length + j) * d.r.length + l)
    (hv : d.v.getD i ByteArray.empty = v) (hu : d.g.getD j ByteArray.empty = u) (hx : d.r.getD l ByteArray.empty = x) (zv : v.size ≤ maxLen) (zu : u.size ≤ maxLen) (zx : x.size ≤ maxLen)
    (hn : OwnS nm d.n w) (hnil : nm = .slice none 0 0 ↔ d.n = []) : TripOk d e (xEl w nm e.c4 e.an) p (xW w v u x nm e.c4 e.an) := by
  subst hp
  refine ⟨?_, ?_, ?_, hn.below (below_four w _ _ _ _), hnil, rfl, rfl⟩
  · rw [idx_v hj hl, hv]; exact OwnS.one (four0 w _ _ _ _) zv
  · rw [idx_g hj hl, hu]; exact OwnS.one (four1 w _ _ _ _) zu
  · rw [idx_r hl, hx]; exact OwnS.one (four2 w _ _ _ _) zx

end Go.Proofs.Qxb6606073a.W
