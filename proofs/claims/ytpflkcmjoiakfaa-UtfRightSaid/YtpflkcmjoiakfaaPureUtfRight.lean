/- What is decoded is just signs, and at most three times as long: of every bytes the law's call returns true. No condition. -/
import Derived.Test.YtpflkcmjoiakfaaPAllx16
import Derived.Test.YtpflkcmjoiakfaaPureLib3
set_option linter.unusedVariables false
namespace Go.Proofs.Ytpflkcmjoiakfaa.Pure
open Go.RowKit Go.Lib Go.Proofs.Ytpflkcmjoiakfaa.PAll Go.Proofs.Ytpflkcmjoiakfaa.Spec

/-- Bytes in range: a list of them. -/
theorem of_wf {l : List Int} (h : ∀ x ∈ l, (Lit.int .u8 x).wf = true) : ∃ L : List UInt8, l = nums L := ⟨_, (nums_of h).symm⟩

theorem begins_at (L : List UInt8) : flailref01_Begins.f ⟨L.toArray⟩ ⟨#[239, 187, 191]⟩ = some (decide (L.take 3 = [239, 187, 191])) := by
  unfold flailref01_Begins.f
  have hz : (⟨#[239, 187, 191]⟩ : ByteArray).size = 3 := rfl
  rw [ba_size, hz]
  by_cases h : L.length < 3
  · rw [if_pos (by omega), decide_eq_false]
    intro e
    have := congrArg List.length e
    simp at this
    omega
  · rw [if_neg (by omega), if_pos (by omega), if_pos (by omega), Lib.extract_toList, ByteArray.toList_eq]
    congr 1
    rw [Bool.eq_iff_iff, beq_iff_eq, decide_eq_true_iff]
    simp

theorem UtfRight : flaillaw01_UtfRight.Pure := by
  intro l _ _ hw
  obtain ⟨L, rfl⟩ := of_wf hw
  refine ⟨11, ?_⟩
  unfold flaillaw01_UtfRight.f
  rw [awake_at, nums_length]
  simp only [Option.bind_some]
  by_cases h : L.length > 300
  · rw [if_pos (by omega)]
  · have hd := dec_len _ (trim L) (Nat.le_refl _)
    have ht := trim_len L
    have hr : right (Spec.decode L) = true := right_dec _ _ (Nat.le_refl _)
    have hb : decide (((⟨(Spec.decode L).toArray⟩ : ByteArray).size : Int) > wrap64 (3 * (L.length : Int))) = false := by
      rw [ba_size, w64 (by omega) (by omega)]
      apply decide_eq_false
      unfold Spec.decode
      omega
    rw [if_neg (by omega), dec_of_nums L (by omega)]
    simp only [Option.bind_some]
    rw [right_at, hb]
    have e1 : right (⟨(Spec.decode L).toArray⟩ : ByteArray).data.toList = true := hr
    rw [e1]
    simp only [Option.bind_some, if_true]
    rw [show (11 : Nat) = 10 + 1 from rfl, flaillaw01_UtfRight.j0, if_neg (by decide), strOf_nums, right_at, begins_at]
    have e2 : right (⟨L.toArray⟩ : ByteArray).data.toList = right L := rfl
    rw [e2, nums_length, nums_drop, strOf_nums]
    simp only [Option.bind_some, if_true, ByteArray.toList_eq]
    cases hL : right L with
    | true =>
      rw [if_pos rfl]
      have hdd : Spec.decode L = trim L := dec_right (trim_right hL)
      rw [hdd]
      by_cases hm : L.take 3 = [239, 187, 191]
      · rw [if_pos (by simpa using hm)]
        have h3 : 3 ≤ L.length := by
          have := congrArg List.length hm
          simp at this
          omega
        rw [if_pos (by omega)]
        unfold trim
        rw [if_pos hm]
        simp
      · rw [if_neg (by simpa using hm)]
        unfold trim
        rw [if_neg hm]
        simp
    | false =>
      rw [if_neg (by decide)]
      have hne : Spec.decode L ≠ L := by
        intro e
        rw [e, hL] at hr
        exact absurd hr (by decide)
      simpa using hne

end Go.Proofs.Ytpflkcmjoiakfaa.Pure
