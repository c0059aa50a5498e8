import Derived.Test.Qxb6606073aRo
namespace Go.Proofs.Qxb6606073a.W
open Go.RowKit
set_option linter.unusedVariables false
set_option linter.unusedSimpArgs false

theorem heap_cell {w : World} {g : Nat} {c : Array Value} {t : TypeId} {fr : Nat × Nat} (h : w.heap[g]? = some (.cells c t fr)) (i : Nat) : w.cell? ⟨g, i, none⟩ = c[i]? := by
  unfold World.cell?
  simp only [h]
  simp
theorem heap_frozen {w : World} {g : Nat} {c : Array Value} {t : TypeId} (h : w.heap[g]? = some (.cells c t (0, 0))) (i : Nat) : w.frozen? ⟨g, i, none⟩ = false := by
  unfold World.frozen?
  simp only [h]
  simp
theorem heap_setCell_same {w : World} {g i : Nat} {c : Array Value} {t : TypeId} {fr : Nat × Nat} (h : w.heap[g]? = some (.cells c t fr)) (v : Value) : (w.setCell ⟨g, i, none⟩ v).heap[g]? = some (.cells (c.setIfInBounds i v) t fr) := by
  unfold World.setCell
  simp only [Array.getElem?_modify, if_pos, h]
  rfl

/-- Six stores. -/
abbrev set6 (w : World) (g o : Nat) (e : El) : World :=
  (((((w.setCell ⟨g, o, none⟩ e.c0).setCell ⟨g, o + 1, none⟩ e.c1).setCell ⟨g, o + 2, none⟩ e.c2).setCell ⟨g, o + 3, none⟩ e.c3).setCell ⟨g, o + 4, none⟩ e.c4).setCell ⟨g, o + 5, none⟩ (.bool e.an)

theorem set6_heap {w : World} {g o : Nat} {cur : Array Value} {t : TypeId} {fr : Nat × Nat} (h : w.heap[g]? = some (.cells cur t fr)) (e : El) (ho : o + 6 ≤ cur.size) :
    ∃ cur', (set6 w g o e).heap[g]? = some (.cells cur' t fr) ∧ cur'.size = cur.size ∧ (∀ j, j < o ∨ o + 6 ≤ j → cur'[j]? = cur[j]?) ∧ ∀ j v, e.cells[j]? = some v → cur'[o + j]? = some v := by
  refine ⟨_, heap_setCell_same (heap_setCell_same (heap_setCell_same (heap_setCell_same (heap_setCell_same (heap_setCell_same h _) _) _) _) _) _, by simp, fun j hj => ?_, fun j v hv => ?_⟩
  · simp only [Array.getElem?_setIfInBounds]
    rw [if_neg (by omega), if_neg (by omega), if_neg (by omega), if_neg (by omega), if_neg (by omega), if_neg (by omega)]
  · simp only [Array.getElem?_setIfInBounds, Array.size_setIfInBounds]
    match j, hv with
    | 0, hv => simp [El.cells] at hv; subst hv; simp; omega
    | 1, hv => simp [El.cells] at hv; subst hv; simp; omega
    | 2, hv => simp [El.cells] at hv; subst hv; simp; omega
    | 3, hv => simp [El.cells] at hv; subst hv; simp; omega
    | 4, hv => simp [El.cells] at hv; subst hv; simp; omega
    | 5, hv => simp [El.cells] at hv; subst hv; simp; omega
    | j + 6, hv => simp [El.cells] at hv

theorem set6_other (w : World) (g o : Nat) (e : El) (k : Nat) (hk : k ≠ g) : (set6 w g o e).heap[k]? = w.heap[k]? := by
  unfold set6
  rw [Below.heap_setCell _ _ _ _ hk, Below.heap_setCell _ _ _ _ hk, Below.heap_setCell _ _ _ _ hk, Below.heap_setCell _ _ _ _ hk, Below.heap_setCell _ _ _ _ hk, Below.heap_setCell _ _ _ _ hk]

theorem set6_keep {T : TypeId} {w : World} {g o : Nat} {cur : Array Value} {fr : Nat × Nat} (h : w.heap[g]? = some (.cells cur T fr)) (e : El) : Keep T w (set6 w g o e) := fun k c t f ht hk => by
  by_cases hkg : k = g
  · subst hkg
    rw [h] at hk
    cases hk
    exact absurd rfl ht
  · rw [set6_other _ _ _ _ _ hkg]; exact hk

theorem set6_below {B : Nat} {a w : World} {g o : Nat} (h : Below B a w) (hg : B ≤ g) (e : El) : Below B a (set6 w g o e) :=
  (((((h.setCell (p := ⟨g, o, none⟩) hg _).setCell (p := ⟨g, o + 1, none⟩) hg _).setCell (p := ⟨g, o + 2, none⟩) hg _).setCell (p := ⟨g, o + 3, none⟩) hg _).setCell (p := ⟨g, o + 4, none⟩) hg _).setCell (p := ⟨g, o + 5, none⟩) hg _

/-- A row of n elements, whose first ones are those of es. -/
def RowE (T : TypeId) (g n : Nat) (es : List El) (w : World) : Prop :=
  ∃ cur : Array Value, w.heap[g]? = some (.cells cur T (0, 0)) ∧ cur.size = n * 6 ∧ es.length ≤ n ∧ ∀ (i : Nat) e, es[i]? = some e → ∀ (j : Nat) v, e.cells[j]? = some v → cur[i * 6 + j]? = some v

theorem cells_len (e : El) : e.cells.length = 6 := rfl

theorem RowE.step {T : TypeId} {g n : Nat} {es : List El} {w : World} (h : RowE T g n es w) (hk : es.length < n) (e : El) : RowE T g n (es ++ [e]) (set6 w g (es.length * 6) e) := by
  obtain ⟨cur, h1, h2, h3, h4⟩ := h
  obtain ⟨cur', a1, a2, a3, a4⟩ := set6_heap h1 e (o := es.length * 6) (by omega)
  refine ⟨cur', a1, a2.trans h2, by simp; omega, fun i x hx j v hv => ?_⟩
  have hj : j < 6 := by have := (List.getElem?_eq_some_iff.1 hv).1; rwa [cells_len] at this
  by_cases hi : i < es.length
  · rw [List.getElem?_append_left hi] at hx
    rw [a3 _ (.inl (by omega))]
    exact h4 i x hx j v hv
  · have := (List.getElem?_eq_some_iff.1 hx).1
    simp at this
    obtain rfl : i = es.length := by omega
    simp at hx
    subst hx
    exact a4 j v hv

theorem RowE.range {T : TypeId} {g n : Nat} {es : List El} {w : World} (h : RowE T g n es w) {i : Nat} {e : El} (he : es[i]? = some e) : w.rangeAt g (i * 6) e.cells := by
  obtain ⟨cur, h1, h2, h3, h4⟩ := h
  intro j v hv
  rw [heap_cell h1]
  exact h4 i e he j v hv

theorem RowE.keep {T U : TypeId} {g n : Nat} {es : List El} {w w' : World} (h : RowE T g n es w) (k : Keep U w w') (hT : T ≠ U) : RowE T g n es w' := by
  obtain ⟨cur, h1, h2, h3, h4⟩ := h
  exact ⟨cur, k g cur T (0, 0) hT h1, h2, h3, h4⟩

theorem RowE.below {T : TypeId} {g n : Nat} {es : List El} {w w' : World} (h : RowE T g n es w) (hb : Below w.heap.size w w') : RowE T g n es w' := by
  obtain ⟨cur, h1, h2, h3, h4⟩ := h
  exact ⟨cur, (hb.block g (Array.getElem?_eq_some_iff.1 h1).1).trans h1, h2, h3, h4⟩

/-- What the next store asks. -/
theorem RowE.next {T : TypeId} {g n : Nat} {es : List El} {w : World} (h : RowE T g n es w) (hk : es.length < n) (j : Nat) (hj : j < 6) : ∃ x, w.cell? ⟨g, es.length * 6 + j, none⟩ = some x ∧ w.frozen? ⟨g, es.length * 6 + j, none⟩ = false := by
  obtain ⟨cur, h1, h2, h3, h4⟩ := h
  have hl : es.length * 6 + j < cur.size := by omega
  exact ⟨cur[es.length * 6 + j], by rw [heap_cell h1, Array.getElem?_eq_getElem hl], heap_frozen h1 _⟩

/-- The row's cells, one behind the other. -/
def flat (es : List El) : List Value := es.flatMap El.cells

theorem flat_append (a b : List El) : flat (a ++ b) = flat a ++ flat b := List.flatMap_append

theorem flat_len : ∀ es : List El, (flat es).length = es.length * 6
  | [] => rfl
  | e :: r => by
    show (e.cells ++ flat r).length = _
    rw [List.length_append, flat_len r, cells_len, List.length_cons]
    omega

theorem flat_get : ∀ (es : List El) (i : Nat) (e : El), es[i]? = some e → ∀ (j : Nat) v, e.cells[j]? = some v → (flat es)[i * 6 + j]? = some v
  | [], i, e, h, _, _, _ => by simp at h
  | x :: r, 0, e, h, j, v, hv => by
    simp at h
    subst h
    show (x.cells ++ flat r)[0 * 6 + j]? = _
    have hj := (List.getElem?_eq_some_iff.1 hv).1
    rw [Nat.zero_mul, Nat.zero_add, List.getElem?_append_left hj]
    exact hv
  | x :: r, i + 1, e, h, j, v, hv => by
    have ih := flat_get r i e (by simpa using h) j v hv
    show (x.cells ++ flat r)[(i + 1) * 6 + j]? = _
    rw [List.getElem?_append_right (by rw [cells_len]; omega), cells_len]
    rw [← ih]
    congr 1
    omega

theorem flat_cell {es : List El} {k : Nat} (hk : k < es.length * 6) : ∃ e v, es[k / 6]? = some e ∧ e.cells[k % 6]? = some v ∧ (flat es)[k]? = some v := by
  have h1 : k / 6 < es.length := by omega
  have h2 : k % 6 < (es[k / 6]).cells.length := by rw [cells_len]; omega
  have h3 : es[k / 6]? = some es[k / 6] := List.getElem?_eq_getElem h1
  have h4 : (es[k / 6]).cells[k % 6]? = some ((es[k / 6]).cells[k % 6]) := List.getElem?_eq_getElem h2
  refine ⟨_, _, h3, h4, ?_⟩
  have := flat_get es (k / 6) _ h3 (k % 6) _ h4
  rwa [show k / 6 * 6 + k % 6 = k by omega] at this

/-- A full row is owned. -/
theorem RowE.owns {T : TypeId} {g n base : Nat} {es : List El} {w : World} (h : RowE T g n es w) (hn : es.length = n) (hb : base ≤ g) (hm : n ≤ maxLen) : w.ownsRow base T 6 (.slice (some ⟨g, 0, none⟩) n n) n (flat es) := by
  obtain ⟨cur, h1, h2, h3, h4⟩ := h
  refine ⟨by rw [flat_len, hn], .inr ⟨g, n, cur, rfl, hb, h1, Nat.le_refl _, hm, h2, ?_⟩⟩
  rw [List.take_of_length_le (by simp [h2])]
  apply List.ext_getElem?
  intro k
  by_cases hk : k < n * 6
  · obtain ⟨e, v, a, b, c⟩ := flat_cell (es := es) (k := k) (by rw [hn]; exact hk)
    rw [c]
    have := h4 _ _ a _ _ b
    rw [show k / 6 * 6 + k % 6 = k by omega] at this
    simpa using this
  · rw [List.getElem?_eq_none (by simp; omega), List.getElem?_eq_none (by rw [flat_len, hn]; omega)]

theorem owns_range {T : TypeId} {g n cap base m : Nat} {es : List El} {w : World} (h : w.ownsRow base T 6 (.slice (some ⟨g, 0, none⟩) n cap) m (flat es)) {i : Nat} {e : El} (he : es[i]? = some e) : w.rangeAt g (i * 6) e.cells := by
  intro j v hv
  have := h.cells (g := g) rfl (i * 6 + j) v (flat_get es i e he j v hv)
  rwa [Addr.add_mid, Nat.zero_add] at this
end Go.Proofs.Qxb6606073a.W
