import Derived.Test.Qxb6606073aRows
import Derived.Test.Qxb6606073aFrame
import Derived.Test.Qxb6606073aW6
namespace Go.Proofs.Qxb6606073a.lawCover
open Go.RowKit Go.Proofs.Qxb6606073a.W
set_option linter.unusedVariables false

set_option maxRecDepth 100000 in
theorem big (rv rg rr : ByteArray) (ra : Bool) (ns : Value) (ss : List ByteArray) (v g r : ByteArray) (an : Bool) (nm : ByteArray) (nd : Bool) (w : World)
    (h0 : rv.size ≤ maxLen) (h1 : rg.size ≤ maxLen) (h2 : rr.size ≤ maxLen) (h3 : v.size ≤ maxLen) (h4 : g.size ≤ maxLen) (h5 : r.size ≤ maxLen) (h6 : nm.size ≤ maxLen) (hS : StrsAt ns ss w) (hb : 4096 < r.size) :
    Calls Try.prog 6 #[.string rv, .string rg, .string rr, .bool ra, ns, .string v, .string g, .string r, .bool an, .string nm, .bool nd] w fun e w' => e = .returned (.bool true) ∧ Below w.heap.size w w' := by
  go_enter Try.func6, Try.ntmps6
  go_wp2_with fail
  go_at_call 35
  refine (zz_any rv rg rr ra v g r an nm nd h0 h1 h2 h3 h4 h5 h6 hS).mono ?_
  rintro e w' ⟨b, rfl, rfl, hq⟩
  clear hq
  unfold maxLen at h5
  cases b with
  | false =>
    go_wp2
    go_ret
    exact ⟨rfl, Below.refl _ _⟩
  | true =>
    go_wp2
    go_ret
    exact ⟨rfl, Below.refl _ _⟩

/-- ████ THE STATEMENT ████ -/
theorem proved : Rows.FnCoverResourceOneGrantClosedFormSaid := proved_of6 (fun rv rg rr ra ns ss v g r an nm nd w h0 h1 h2 h3 h4 h5 h6 hS => by
  by_cases hb : r.size ≤ 4096
  · exact law_main rv rg rr ra ns ss v g r an nm nd w h0 h1 h2 h3 h4 hb h6 hS
  · exact big rv rg rr ra ns ss v g r an nm nd w h0 h1 h2 h3 h4 h5 h6 hS (by omega))
end Go.Proofs.Qxb6606073a.lawCover
