/- The signs of any bytes, and whether any text is just signs, is as the document says: of every bytes the law's call returns true. No condition. -/
import Derived.Test.YtpflkcmjoiakfaaPAllx14
import Derived.Test.YtpflkcmjoiakfaaPureLib3
set_option linter.unusedVariables false
namespace Go.Proofs.Ytpflkcmjoiakfaa.Pure
open Go.RowKit Go.Lib Go.Proofs.Ytpflkcmjoiakfaa.PAll Go.Proofs.Ytpflkcmjoiakfaa.Spec

/-- Bytes in range: a list of them. -/
theorem of_wf {l : List Int} (h : ∀ x ∈ l, (Lit.int .u8 x).wf = true) : ∃ L : List UInt8, l = nums L := ⟨_, (nums_of h).symm⟩

theorem UtfDecodes : flaillaw01_UtfDecodes.Pure := by
  intro l _ _ hw
  obtain ⟨L, rfl⟩ := of_wf hw
  refine ⟨2000, ?_⟩
  unfold flaillaw01_UtfDecodes.f
  rw [awake_at, nums_length]
  simp only [Option.bind_some]
  by_cases h : L.length > 300
  · rw [if_pos (by omega)]
  · rw [if_neg (by omega), if_pos trivial, dec_of_nums L (by omega), refdec_at L (by omega), strOf_nums, right_at]
    have hr : flailref01_Right.f ⟨L.toArray⟩ = some (right L) := by
      unfold flailref01_Right.f
      rw [ba_size, if_pos (by omega)]
    rw [hr]
    simp

end Go.Proofs.Ytpflkcmjoiakfaa.Pure
