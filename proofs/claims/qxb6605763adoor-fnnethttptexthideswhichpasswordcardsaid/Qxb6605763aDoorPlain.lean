/-
  Qxb6605763aDoor: THE PLAIN LAYER: net/url's escaping by its table, the text of a URL with user information, and where its first '@' stands. No Go in sight.
-/
import Derived.Lib.Strings
import Derived.Lib.Bytealg
namespace Go.Proofs.Qxb6605763aDoor.Plain

/-- net/url's table: a bit a mode: may the byte stand unescaped there? -/
def tab : List Nat := [0, 0, 0, 0, 0, 0, 0, 0, 0, 0, 0, 0, 0, 0, 0, 0, 0, 0, 0, 0, 0, 0, 0, 0, 0, 0, 0, 0, 0, 0, 0, 0, 0, 76, 12, 0, 95, 0, 95, 12, 76, 76, 76, 95, 93, 127, 127, 65, 255, 255, 255, 255, 255, 255, 255, 255, 255, 255, 79, 93, 12, 95, 12, 64, 67, 255, 255, 255, 255, 255, 255, 127, 127, 127, 127, 127, 127, 127, 127, 127, 127, 127, 127, 127, 127, 127, 127, 127, 127, 127, 127, 12, 0, 12, 0, 127, 0, 255, 255, 255, 255, 255, 255, 127, 127, 127, 127, 127, 127, 127, 127, 127, 127, 127, 127, 127, 127, 127, 127, 127, 127, 127, 127, 0, 0, 0, 127, 0, 0, 0, 0, 0, 0, 0, 0, 0, 0, 0, 0, 0, 0, 0, 0, 0, 0, 0, 0, 0, 0, 0, 0, 0, 0, 0, 0, 0, 0, 0, 0, 0, 0, 0, 0, 0, 0, 0, 0, 0, 0, 0, 0, 0, 0, 0, 0, 0, 0, 0, 0, 0, 0, 0, 0, 0, 0, 0, 0, 0, 0, 0, 0, 0, 0, 0, 0, 0, 0, 0, 0, 0, 0, 0, 0, 0, 0, 0, 0, 0, 0, 0, 0, 0, 0, 0, 0, 0, 0, 0, 0, 0, 0, 0, 0, 0, 0, 0, 0, 0, 0, 0, 0, 0, 0, 0, 0, 0, 0, 0, 0, 0, 0, 0, 0, 0, 0, 0, 0, 0, 0, 0, 0, 0, 0, 0, 0, 0]

set_option maxRecDepth 10000 in
theorem tab_len : tab.length = 256 := by rfl

/-- Is the byte escaped in this mode? -/
def need (m : Nat) (c : UInt8) : Bool := (tab.getD c.toNat 0 &&& m) == 0

def hexs : List UInt8 := [48, 49, 50, 51, 52, 53, 54, 55, 56, 57, 65, 66, 67, 68, 69, 70]
def hexd (n : Nat) : UInt8 := hexs.getD n 0

def esc1 (m : Nat) (c : UInt8) : List UInt8 := if need m c then [37, hexd (c.toNat / 16), hexd (c.toNat % 16)] else [c]
def esc (m : Nat) (l : List UInt8) : List UInt8 := l.flatMap (esc1 m)
/-- How many bytes are escaped. -/
def hexn (m : Nat) (l : List UInt8) : Nat := (l.filter (need m)).length

theorem esc_nil (m : Nat) : esc m [] = [] := rfl
theorem esc_append (m : Nat) (a b : List UInt8) : esc m (a ++ b) = esc m a ++ esc m b := by simp [esc, List.flatMap_append]
theorem esc_one (m : Nat) (c : UInt8) : esc m [c] = esc1 m c := by simp [esc]
theorem esc_cons (m : Nat) (c : UInt8) (l : List UInt8) : esc m (c :: l) = esc1 m c ++ esc m l := by simp [esc]
theorem esc1_yes {m : Nat} {c : UInt8} (h : need m c = true) : esc1 m c = [37, hexd (c.toNat / 16), hexd (c.toNat % 16)] := by simp [esc1, h]
theorem esc1_no {m : Nat} {c : UInt8} (h : need m c = false) : esc1 m c = [c] := by simp [esc1, h]

theorem esc_length (m : Nat) (l : List UInt8) : (esc m l).length = l.length + 2 * hexn m l := by
  induction l with
  | nil => rfl
  | cons c t ih =>
    rw [esc_cons, List.length_append, ih, List.length_cons]
    unfold hexn
    cases h : need m c with
    | true => rw [esc1_yes h, List.filter_cons_of_pos h]; simp; omega
    | false => rw [esc1_no h, List.filter_cons_of_neg (by simp [h])]; simp; omega

theorem hexn_le (m : Nat) (l : List UInt8) : hexn m l ≤ l.length := List.length_filter_le _ _

theorem take_snoc (l : List UInt8) (k : Nat) (c : UInt8) (h : l[k]? = some c) : l.take (k + 1) = l.take k ++ [c] := by
  rw [List.take_add_one, h]; rfl

theorem hexn_snoc (m : Nat) (l : List UInt8) (k : Nat) (c : UInt8) (h : l[k]? = some c) : hexn m (l.take (k + 1)) = hexn m (l.take k) + (if need m c then 1 else 0) := by
  rw [take_snoc l k c h]; unfold hexn; rw [List.filter_append]
  cases hn : need m c <;> simp [hn]

theorem esc_snoc (m : Nat) (l : List UInt8) (k : Nat) (c : UInt8) (h : l[k]? = some c) : esc m (l.take (k + 1)) = esc m (l.take k) ++ esc1 m c := by
  rw [take_snoc l k c h, esc_append, esc_one]

theorem esc_take_le (m : Nat) (l : List UInt8) (k : Nat) : (esc m (l.take k)).length ≤ (esc m l).length := by
  conv => rhs; rw [← List.take_append_drop k l, esc_append, List.length_append]
  omega

theorem esc_same (m : Nat) (l : List UInt8) (h : hexn m l = 0) : esc m l = l := by
  induction l with
  | nil => rfl
  | cons c t ih =>
    have hc : need m c = false := by
      cases hn : need m c with
      | false => rfl
      | true => unfold hexn at h; rw [List.filter_cons_of_pos hn] at h; simp at h
    have ht : hexn m t = 0 := by
      unfold hexn at h ⊢; rw [List.filter_cons_of_neg (by simp [hc])] at h; exact h
    rw [esc_cons, esc1_no hc, ih ht]; rfl

/-! ### No '@' and no ':' in what the mode of user names leaves -/

theorem need_at : need 16 64 = true := by decide
theorem need_colon : need 16 58 = true := by decide

theorem hexd_ne (n : Nat) (hn : n < 16) : hexd n ≠ 64 ∧ hexd n ≠ 58 := by
  have : ∀ i : Fin 16, hexd i.val ≠ 64 ∧ hexd i.val ≠ 58 := by decide
  exact this ⟨n, hn⟩

theorem esc16_ne (l : List UInt8) : ∀ c ∈ esc 16 l, c ≠ 64 ∧ c ≠ 58 := by
  induction l with
  | nil => intro c hc; cases hc
  | cons d t ih =>
    intro c hc
    rw [esc_cons, List.mem_append] at hc
    rcases hc with hc | hc
    · cases hn : need 16 d with
      | true =>
        rw [esc1_yes hn] at hc
        simp only [List.mem_cons, List.not_mem_nil, or_false] at hc
        rcases hc with rfl | rfl | rfl
        · exact ⟨by decide, by decide⟩
        · exact hexd_ne _ (by have := d.toNat_lt; omega)
        · exact hexd_ne _ (by omega)
      | false =>
        rw [esc1_no hn, List.mem_singleton] at hc
        subst hc
        exact ⟨fun e => (by rw [e, need_at] at hn; cases hn), fun e => (by rw [e, need_colon] at hn; cases hn)⟩
    · exact ih c hc

/-! ### The text of a URL with user information -/

def isB (l : List UInt8) : Bool := l.isEmpty

def preT (sc : List UInt8) : List UInt8 := if sc.isEmpty then [] else sc ++ [58]
def hostT (ho : List UInt8) : List UInt8 := if ho.isEmpty then [] else esc 4 ho
def pathE (pa : List UInt8) : List UInt8 := if pa == [42] then [42] else esc 1 pa
/-- Is a slash written between host and path? -/
def slashB (ho p : List UInt8) : Bool := !p.isEmpty && !(p.head? == some 47) && !ho.isEmpty
def pathT (ho pa : List UInt8) : List UInt8 := (if slashB ho (pathE pa) then [47] else []) ++ pathE pa
def queryT (rq : List UInt8) : List UInt8 := if rq.isEmpty then [] else 63 :: rq
def fragT (fr : List UInt8) : List UInt8 := if fr.isEmpty then [] else 35 :: esc 64 fr
/-- What stands behind the user information's '@'. -/
def restT (ho pa rq fr : List UInt8) : List UInt8 := hostT ho ++ pathT ho pa ++ (queryT rq ++ fragT fr)
def urlT (sc op ui ho pa rq fr : List UInt8) : List UInt8 :=
  if op.isEmpty then preT sc ++ [47, 47] ++ ui ++ 64 :: restT ho pa rq fr else preT sc ++ op ++ (queryT rq ++ fragT fr)

def userT (us : List UInt8) : List UInt8 := esc 16 us
def passT (us pw : List UInt8) : List UInt8 := esc 16 us ++ 58 :: esc 16 pw

theorem passT_ne (us pw : List UInt8) : ∀ c ∈ passT us pw, c ≠ 64 := by
  intro c hc
  rw [passT, List.mem_append, List.mem_cons] at hc
  rcases hc with hc | rfl | hc
  · exact (esc16_ne us c hc).1
  · decide
  · exact (esc16_ne pw c hc).1

theorem userT_ne (us : List UInt8) : ∀ c ∈ userT us, c ≠ 64 := fun c hc => (esc16_ne us c hc).1

theorem preT_ne {sc : List UInt8} (h : ∀ c ∈ sc, c ≠ 64) : ∀ c ∈ preT sc ++ [47, 47], c ≠ 64 := by
  intro c hc
  rw [List.mem_append] at hc
  rcases hc with hc | hc
  · unfold preT at hc
    split at hc
    · cases hc
    · rw [List.mem_append, List.mem_singleton] at hc
      rcases hc with hc | rfl
      · exact h c hc
      · decide
  · simp only [List.mem_cons, List.not_mem_nil, or_false] at hc
    rcases hc with rfl | rfl <;> decide

/-- Where the first '@' stands. -/
theorem index_at (a b : List UInt8) (h : ∀ c ∈ a, c ≠ 64) : Lib.indexByte (a ++ 64 :: b) 64 = a.length := by
  induction a with
  | nil => simp [Lib.indexByte]
  | cons x t ih =>
    have hx : (x == 64) = false := beq_eq_false_iff_ne.2 (h x (by simp))
    have ht := ih (fun c hc => h c (by simp [hc]))
    rw [List.cons_append, Lib.indexByte, hx, ht]
    have : ((t.length : Int) == -1) = false := beq_eq_false_iff_ne.2 (by omega)
    simp [this]

/-- A text that ends in its one '@' does not stand further to the left. -/
theorem no_earlier (P U R : List UInt8) (hP : ∀ c ∈ P, c ≠ 64) (hU : ∀ c ∈ U, c ≠ 64) (i : Nat) (hi : i < P.length) :
    ((P ++ U ++ 64 :: R).drop i).take (U.length + 1) ≠ U ++ [64] := by
  intro e
  have h2 : (((P ++ U ++ 64 :: R).drop i).take (U.length + 1))[U.length]? = some 64 := by rw [e]; simp
  rw [List.getElem?_take_of_lt (by omega), List.getElem?_drop] at h2
  have h3 : i + U.length < (P ++ U).length := by rw [List.length_append]; omega
  rw [List.getElem?_append_left h3] at h2
  have hm : (64 : UInt8) ∈ P ++ U := List.mem_of_getElem? h2
  rw [List.mem_append] at hm
  rcases hm with hm | hm
  · exact hP 64 hm rfl
  · exact hU 64 hm rfl

/-- The masked text is not the text without a password. -/
theorem masked_ne (P us R : List UInt8) : P ++ us ++ [58, 42, 42, 42] ++ R ≠ P ++ userT us ++ R := by
  intro e
  have e2 : us ++ [58, 42, 42, 42] = userT us := by
    have := List.append_cancel_right e
    rw [List.append_assoc] at this
    exact List.append_cancel_left this
  have hm : (58 : UInt8) ∈ userT us := by rw [← e2]; simp
  exact (esc16_ne us 58 hm).2 rfl

theorem urlT_len (sc op ui ho pa rq fr : List UInt8) :
    (urlT sc op ui ho pa rq fr).length ≤ sc.length + op.length + ui.length + 3 * ho.length + 3 * pa.length + rq.length + 3 * fr.length + 16 := by
  have h1 := esc_length 4 ho
  have h2 := hexn_le 4 ho
  have h3 := esc_length 1 pa
  have h4 := hexn_le 1 pa
  have h5 := esc_length 64 fr
  have h6 := hexn_le 64 fr
  have hp : (preT sc).length ≤ sc.length + 1 := by unfold preT; split <;> simp
  have hh : (hostT ho).length ≤ 3 * ho.length := by
    unfold hostT; split
    · simp
    · omega
  have hpe : (pathE pa).length ≤ 3 * pa.length := by
    unfold pathE; split
    · rename_i h; rw [beq_iff_eq] at h; subst h; simp
    · omega
  have hpt : (pathT ho pa).length ≤ 3 * pa.length + 1 := by unfold pathT; split <;> simp <;> omega
  have hq : (queryT rq).length ≤ rq.length + 1 := by unfold queryT; split <;> simp
  have hf : (fragT fr).length ≤ 3 * fr.length + 1 := by unfold fragT; split <;> simp <;> omega
  unfold urlT restT
  split <;> simp <;> omega

end Go.Proofs.Qxb6605763aDoor.Plain
