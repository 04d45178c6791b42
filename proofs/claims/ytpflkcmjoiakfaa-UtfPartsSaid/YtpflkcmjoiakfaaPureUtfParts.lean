/- Where a sign begins bytes are read anew: of every two bytes and a byte the law's call returns true. No condition. -/
import Derived.Test.YtpflkcmjoiakfaaPAllx18
import Derived.Test.YtpflkcmjoiakfaaPureLib3
set_option linter.unusedVariables false
namespace Go.Proofs.Ytpflkcmjoiakfaa.Pure
open Go.RowKit Go.Lib Go.Proofs.Ytpflkcmjoiakfaa.PAll Go.Proofs.Ytpflkcmjoiakfaa.Spec

/-- Bytes in range: a list of them. -/
theorem of_wf {l : List Int} (h : ∀ x ∈ l, (Lit.int .u8 x).wf = true) : ∃ L : List UInt8, l = nums L := ⟨_, (nums_of h).symm⟩

theorem nums_app (a b : List UInt8) : nums a ++ nums b = nums (a ++ b) := by simp [nums]

theorem parts_in (A B : List UInt8) (x : UInt8) (hA : A.length ≤ 300) (hB : B.length ≤ 300) (hx : x.toNat < 128) (c : Int) (hc : Int.tmod c 128 = (x.toNat : Int)) :
    flaillaw01_UtfParts.j0 (10 + 1) (nums A) (nums B) c true false = some true := by
  have e1 : nums A ++ [(x.toNat : Int)] = nums (A ++ [x]) := nums_app A [x]
  have e2 : nums (A ++ [x]) ++ nums B = nums (A ++ x :: B) := by rw [nums_app]; simp
  have e3 : [(x.toNat : Int)] ++ nums B = nums (x :: B) := nums_app [x] B
  rw [flaillaw01_UtfParts.j0, if_neg (by decide)]
  simp only [Option.bind_some, List.nil_append, List.length_nil]
  rw [hc, e1, e2, e3, nums_length, nums_length, nums_length, if_pos (by omega), if_pos (by omega), if_pos (by rw [List.length_append]; simp; omega), if_pos (by simp; omega), if_pos trivial]
  rw [dec_of_nums _ (by rw [List.length_append]; simp; omega), dec_of_nums A (by omega), dec_of_nums (x :: B) (by simp; omega)]
  simp only [Option.bind_some]
  have t1 : trim (x :: B) = x :: B := by
    unfold trim
    rw [if_neg]
    intro e
    simp at e
    rw [e.1] at hx
    exact absurd hx (by decide)
  have t2 : trim (A ++ x :: B) = trim A ++ x :: B := by
    unfold trim
    by_cases hm : A.take 3 = [239, 187, 191]
    · have h3 : 3 ≤ A.length := by
        have := congrArg List.length hm
        simp at this
        omega
      rw [if_pos hm, if_pos (by rw [List.take_append_of_le_length h3]; exact hm), List.drop_append_of_le_length h3]
    · rw [if_neg hm, if_neg]
      intro e
      by_cases h3 : 3 ≤ A.length
      · rw [List.take_append_of_le_length h3] at e
        exact hm e
      · have hmem : x ∈ (A ++ x :: B).take 3 := by
          rw [List.mem_take_iff_getElem]
          exact ⟨A.length, by simp; omega, by simp⟩
        rw [e] at hmem
        simp at hmem
        rcases hmem with rfl | rfl | rfl <;> exact absurd hx (by decide)
  have hdec : Spec.decode (A ++ x :: B) = Spec.decode A ++ Spec.decode (x :: B) := by
    unfold Spec.decode
    rw [t1, t2]
    exact dec_cut _ _ _ _ (Nat.le_refl _) hx
  have l1 := dec_len _ (trim A) (Nat.le_refl _)
  have l2 := trim_len A
  have l3 := dec_len _ (x :: B) (Nat.le_refl _)
  rw [ba_size, ba_size, if_pos (by unfold Spec.decode; rw [t1]; simp at l3; omega)]
  have hcat : ((⟨(Spec.decode A).toArray⟩ : ByteArray) ++ (⟨(Spec.decode (x :: B)).toArray⟩ : ByteArray)) = ⟨(Spec.decode (A ++ x :: B)).toArray⟩ := by
    apply ba_ext
    rw [hdec]
    simp [ByteArray.data_append]
  rw [hcat, if_pos rfl, strOf_nums, strOf_nums, strOf_nums, right_at, right_at, right_at]
  simp only [Option.bind_some]
  have r1 : right (A ++ x :: B) = (right A && right B) := by rw [right_cut _ _ _ _ (Nat.le_refl _) hx, right_low x B hx]
  show (if right A = true then some (right (A ++ x :: B) == right B) else some (right (A ++ x :: B) == false)) = some true
  rw [r1]
  cases right A <;> cases right B <;> rfl

theorem UtfParts : flaillaw01_UtfParts.Pure := by
  intro l0 l1 c _ _ h0 _ _ h1 hc
  obtain ⟨A, rfl⟩ := of_wf h0
  obtain ⟨B, rfl⟩ := of_wf h1
  simp [Lit.wf, IntKind.min, IntKind.max, IntKind.signed, IntKind.bits] at hc
  refine ⟨10 + 1, ?_⟩
  unfold flaillaw01_UtfParts.f
  rw [awake_at, nums_length, nums_length]
  simp only [Option.bind_some]
  have hout : flaillaw01_UtfParts.j0 (10 + 1) (nums A) (nums B) c true true = some true := by
    rw [flaillaw01_UtfParts.j0, if_pos rfl]
  by_cases hA : A.length > 300
  · rw [if_pos (by omega)]
    exact hout
  · rw [if_neg (by omega)]
    by_cases hB : B.length > 300
    · rw [decide_eq_true (by omega)]
      exact hout
    · rw [decide_eq_false (by omega)]
      have hm : Int.tmod c 128 = c % 128 := Int.tmod_eq_emod_of_nonneg (by omega)
      exact parts_in A B (UInt8.ofNat (c % 128).toNat) (by omega) (by omega) (by rw [ofN (by omega)]; omega) c (by rw [hm, ofN (by omega)]; omega)

end Go.Proofs.Ytpflkcmjoiakfaa.Pure
