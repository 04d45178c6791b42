/- The bytes of any number's sign is as the document says: of every number the law's call returns true. No condition. -/
import Derived.Test.YtpflkcmjoiakfaaPAllx15
import Derived.Test.YtpflkcmjoiakfaaPureLib3
set_option linter.unusedVariables false
namespace Go.Proofs.Ytpflkcmjoiakfaa.Pure
open Go.RowKit Go.Lib Go.Proofs.Ytpflkcmjoiakfaa.PAll Go.Proofs.Ytpflkcmjoiakfaa.Spec

theorem UtfSigns : flaillaw01_UtfSigns.Pure := by
  intro n _
  refine ⟨5, ?_⟩
  unfold flaillaw01_UtfSigns.f
  rw [awake_at, sign_at, refsign_at]
  simp

end Go.Proofs.Ytpflkcmjoiakfaa.Pure
