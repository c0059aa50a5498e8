import Derived.Test.Qxb6606073aRv
import Derived.Test.Qxb6606073aRl
import Derived.Test.Qxb6606073aRs
namespace Go.Proofs.Qxb6606073a.W
open Go.RowKit
set_option linter.unusedVariables false
set_option linter.unusedSimpArgs false

/-- What ZZAppendUncovered hands back. -/
structure App (base : Nat) (d : Rd) (e : El) (es0 : List El) (w : World) (out : Value) (ts : List El) (w' : World) : Prop where
  len : ts.length = d.v.length * d.g.length * d.r.length
  uni : UniRow out (es0 ++ ts) w'
  keep : Keep 34 w w'
  bel : Below base w w'
  hist : ∀ (p : Nat) x, ts[p]? = some x → TripOk d e x p w'

def AppR (base : Nat) (d : Rd) (e : El) (es0 : List El) (w : World) (en : Ending) (w' : World) : Prop := ∃ out ts, en = .returned out ∧ App base d e es0 w out ts w'

set_option maxRecDepth 100000 in
theorem zappend_any {base : Nat} {d : Rd} {e : El} {es0 : List El} {out0 : Value} {w : World} (hO : w.ownsRow base 34 6 out0 es0.length (flat es0)) (hE : OwnE e d w) (hok : Ok d) (hb : base ≤ w.heap.size)
    (hl : es0.length ≤ 8192) (hm : d.v.length * d.g.length * d.r.length ≤ 67108864) :
    Calls Try.prog 13 #[out0, .agg #[e.c0, e.c1, e.c2, e.c3, e.c4, .bool e.an], .slice none 0 0] w fun en w' => AppR base d e es0 w en w' := by
  have hb0 := below_alloc w (.cells #[e.c0, e.c1, e.c2, e.c3, e.c4, .bool e.an] 34)
  have R := append_any (hO.alloc (.cells #[e.c0, e.c1, e.c2, e.c3, e.c4, .bool e.an] 34)) (hE.keep (Keep.of (T := 0) hb0) (by decide)) hok (Nat.le_trans hb hb0.size) hl hm
  obtain ⟨c0, c1, c2, c3, c4, an⟩ := e
  have HP : Hid (∀ en w', Done43 base d ⟨c0, c1, c2, c3, c4, an⟩ es0 (w.alloc (.cells #[c0, c1, c2, c3, c4, .bool an] 34)) en w' → AppR base d ⟨c0, c1, c2, c3, c4, an⟩ es0 w en w') := fun en w' ⟨out, ts, h, e1, e2, s⟩ =>
    ⟨out, ts, e1, e2, owns_uni s.own, (Keep.of hb0).trans s.keep, (hb0.mono hb).trans s.bel, s.hist⟩
  have HB : Hid (∀ en w', Done43 base d ⟨c0, c1, c2, c3, c4, an⟩ es0 (w.alloc (.cells #[c0, c1, c2, c3, c4, .bool an] 34)) en w' → ∃ v, en = .returned v) := fun en w' ⟨out, ts, h, e1, e2, s⟩ => ⟨out, e1⟩
  clear hO hE hok hl hm hb0
  go_enter Try.func13, Try.ntmps13
  go_wp2_with fail
  go_at_call 43
  refine R.mono ?_
  intro en w' hD
  obtain ⟨v, rfl⟩ := HB.out _ _ hD
  have HD : Hid _ := hD
  clear hD
  go_wp2
  go_ret
  exact HP.out _ _ HD.out
end Go.Proofs.Qxb6606073a.W
