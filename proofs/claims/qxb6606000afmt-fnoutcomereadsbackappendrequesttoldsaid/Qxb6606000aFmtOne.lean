import Derived.Test.Qxb6606000aFmtLaw
namespace Go.Proofs.Qxb6606000aFmt.W
open Go.RowKit Go.Lib
open Plain
set_option linter.unusedVariables false
set_option linter.unusedSimpArgs false

set_option maxRecDepth 100000 in
set_option maxHeartbeats 1000000 in
theorem big_k (k x o : ByteArray) (w : World) (hk : k.size ≤ maxLen) (hx : x.size ≤ maxLen) (ho : o.size ≤ maxLen) (h : 262144 < k.size) :
    Calls Tryf.prog 4 #[.string k, .string x, .string o] w fun e w' => e = .returned (.bool true) ∧ Below w.heap.size w w' := by
  unfold maxLen at *
  go_enter Tryf.func4, Tryf.ntmps4
  go_wp2_with fail
  go_at_call 19
  refine (zz_any k x o w hk hx ho).mono ?_
  rintro e w' ⟨r, rfl, rfl, hr⟩
  clear hr
  cases r with
  | false =>
    go_wp2
    go_ret
    exact ⟨rfl, Below.refl _ _⟩
  | true =>
  go_wp2
  go_ret
  exact ⟨rfl, Below.refl _ _⟩

set_option maxRecDepth 100000 in
set_option maxHeartbeats 1000000 in
theorem big_x (k x o : ByteArray) (w : World) (hk : k.size ≤ maxLen) (hx : x.size ≤ maxLen) (ho : o.size ≤ maxLen) (h0 : k.size ≤ 262144) (h : 262144 < x.size) :
    Calls Tryf.prog 4 #[.string k, .string x, .string o] w fun e w' => e = .returned (.bool true) ∧ Below w.heap.size w w' := by
  unfold maxLen at *
  go_enter Tryf.func4, Tryf.ntmps4
  go_wp2_with fail
  go_at_call 19
  refine (zz_any k x o w hk hx ho).mono ?_
  rintro e w' ⟨r, rfl, rfl, hr⟩
  clear hr
  cases r with
  | false =>
    go_wp2
    go_ret
    exact ⟨rfl, Below.refl _ _⟩
  | true =>
  go_wp2
  go_ret
  exact ⟨rfl, Below.refl _ _⟩

set_option maxRecDepth 100000 in
set_option maxHeartbeats 1000000 in
theorem big_o (k x o : ByteArray) (w : World) (hk : k.size ≤ maxLen) (hx : x.size ≤ maxLen) (ho : o.size ≤ maxLen) (h0 : k.size ≤ 262144) (h1 : x.size ≤ 262144) (h : 262144 < o.size) :
    Calls Tryf.prog 4 #[.string k, .string x, .string o] w fun e w' => e = .returned (.bool true) ∧ Below w.heap.size w w' := by
  unfold maxLen at *
  go_enter Tryf.func4, Tryf.ntmps4
  go_wp2_with fail
  go_at_call 19
  refine (zz_any k x o w hk hx ho).mono ?_
  rintro e w' ⟨r, rfl, rfl, hr⟩
  clear hr
  cases r with
  | false =>
    go_wp2
    go_ret
    exact ⟨rfl, Below.refl _ _⟩
  | true =>
  go_wp2
  go_ret
  exact ⟨rfl, Below.refl _ _⟩

set_option maxRecDepth 100000 in
set_option maxHeartbeats 1000000 in
theorem no_k (k x o : ByteArray) (w : World) (hk : k.size ≤ maxLen) (hx : x.size ≤ maxLen) (ho : o.size ≤ maxLen) (h0 : k.size ≤ 262144) (h1 : x.size ≤ 262144) (h2 : o.size ≤ 262144) (h : k.toList.isEmpty = true) :
    Calls Tryf.prog 4 #[.string k, .string x, .string o] w fun e w' => e = .returned (.bool true) ∧ Below w.heap.size w w' := by
  unfold maxLen at *
  go_enter Tryf.func4, Tryf.ntmps4
  go_wp2_with fail
  go_at_call 19
  refine (zz_any k x o w hk hx ho).mono ?_
  rintro e w' ⟨r, rfl, rfl, hr⟩
  clear hr
  cases r with
  | false =>
    go_wp2
    go_ret
    exact ⟨rfl, Below.refl _ _⟩
  | true =>
  go_wp2
  go_ret
  exact ⟨rfl, Below.refl _ _⟩

set_option maxRecDepth 100000 in
set_option maxHeartbeats 1000000 in
theorem no_o0 (k x o : ByteArray) (w : World) (hk : k.size ≤ maxLen) (hx : x.size ≤ maxLen) (ho : o.size ≤ maxLen) (h0 : k.size ≤ 262144) (h1 : x.size ≤ 262144) (h2 : o.size ≤ 262144) (h : k.toList.isEmpty = false) (hx0 : x.toList.isEmpty = true) (hh : o.toList.isEmpty = true) :
    Calls Tryf.prog 4 #[.string k, .string x, .string o] w fun e w' => e = .returned (.bool true) ∧ Below w.heap.size w w' := by
  unfold maxLen at *
  go_enter Tryf.func4, Tryf.ntmps4
  go_wp2_with fail
  go_at_call 19
  refine (zz_any k x o w hk hx ho).mono ?_
  rintro e w' ⟨r, rfl, rfl, hr⟩
  clear hr
  cases r with
  | false =>
    go_wp2
    go_ret
    exact ⟨rfl, Below.refl _ _⟩
  | true =>
  go_wp2_with fail
  go_at_call 9
  refine (plain_any k w (by omega)).mono ?_
  rintro e w' ⟨r, rfl, rfl, HK⟩
  clear HK
  cases r with
  | false =>
    go_wp2
    go_ret
    exact ⟨rfl, Below.refl _ _⟩
  | true =>
  go_wp2
  go_ret
  exact ⟨rfl, Below.refl _ _⟩

set_option maxRecDepth 100000 in
set_option maxHeartbeats 1000000 in
theorem no_o1 (k x o : ByteArray) (w : World) (hk : k.size ≤ maxLen) (hx : x.size ≤ maxLen) (ho : o.size ≤ maxLen) (h0 : k.size ≤ 262144) (h1 : x.size ≤ 262144) (h2 : o.size ≤ 262144) (h : k.toList.isEmpty = false) (hx0 : x.toList.isEmpty = false) (hh : o.toList.isEmpty = true) :
    Calls Tryf.prog 4 #[.string k, .string x, .string o] w fun e w' => e = .returned (.bool true) ∧ Below w.heap.size w w' := by
  unfold maxLen at *
  go_enter Tryf.func4, Tryf.ntmps4
  go_wp2_with fail
  go_at_call 19
  refine (zz_any k x o w hk hx ho).mono ?_
  rintro e w' ⟨r, rfl, rfl, hr⟩
  clear hr
  cases r with
  | false =>
    go_wp2
    go_ret
    exact ⟨rfl, Below.refl _ _⟩
  | true =>
  go_wp2_with fail
  go_at_call 9
  refine (plain_any k w (by omega)).mono ?_
  rintro e w' ⟨r, rfl, rfl, HK⟩
  clear HK
  cases r with
  | false =>
    go_wp2
    go_ret
    exact ⟨rfl, Below.refl _ _⟩
  | true =>
  go_wp2_with fail
  go_at_call 9
  refine (plain_any x w (by omega)).mono ?_
  rintro e w' ⟨r, rfl, rfl, HK⟩
  clear HK
  cases r with
  | false =>
    go_wp2
    go_ret
    exact ⟨rfl, Below.refl _ _⟩
  | true =>
  go_wp2
  go_ret
  exact ⟨rfl, Below.refl _ _⟩

/-- The law's call, whatever the three strings. -/
theorem walk4 (k x o : ByteArray) (w : World) (hk : k.size ≤ maxLen) (hx : x.size ≤ maxLen) (ho : o.size ≤ maxLen) :
    Calls Tryf.prog 4 #[.string k, .string x, .string o] w fun e w' => e = .returned (.bool true) ∧ Below w.heap.size w w' := by
  by_cases h0 : k.size ≤ 262144
  · by_cases h1 : x.size ≤ 262144
    · by_cases h2 : o.size ≤ 262144
      · cases hk0 : k.toList.isEmpty with
        | true => exact no_k k x o w hk hx ho h0 h1 h2 hk0
        | false =>
          cases ho0 : o.toList.isEmpty with
          | true =>
            cases hx0 : x.toList.isEmpty with
            | true => exact no_o0 k x o w hk hx ho h0 h1 h2 hk0 hx0 ho0
            | false => exact no_o1 k x o w hk hx ho h0 h1 h2 hk0 hx0 ho0
          | false =>
            cases hx0 : x.toList.isEmpty with
            | true => exact law_0 k x o w h0 h1 h2 hk0 hx0 ho0
            | false => exact law_x k x o w h0 h1 h2 hk0 hx0 ho0
      · exact big_o k x o w hk hx ho h0 h1 (by omega)
    · exact big_x k x o w hk hx ho h0 (by omega)
  · exact big_k k x o w hk hx ho (by omega)
end Go.Proofs.Qxb6606000aFmt.W
