import Derived.Test.Qxb6606073aRf
import Derived.Test.Qxb6606073aRm
import Derived.Test.Qxb6606073aRz
namespace Go.Proofs.Qxb6606073a
open Go.RowKit
set_option linter.unusedVariables false

theorem zz3 : W.Zz3 := fun rs ds e d w h hr => (W.zz3_any h hr).mono fun en w' ⟨b, h1, h2⟩ => ⟨b, h1, h2⟩

theorem lawAppend.proved : Rows.FnAppendUncoveredWithNoScopeListsEveryTripleSaid :=
  proved_of3 fun rs ds e d w h hr => (W.main_any zz3 h hr).mono fun en w' h1 => h1
end Go.Proofs.Qxb6606073a
