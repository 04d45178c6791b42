/- Plain laws on bytes as signs: what is whole stays whole whatever stands behind it; what is decoded is just signs; parts. -/
import Derived.Test.YtpflkcmjoiakfaaHand
set_option linter.unusedVariables false
namespace Go.Proofs.Ytpflkcmjoiakfaa.PAll
open Go.RowKit Go.Lib Go.Proofs.Ytpflkcmjoiakfaa.Spec Go.Proofs.YtpflkcmjoiakfaaW.PrintWords Go.Proofs.YtpflkcmjoiakfaaW.PrintMore

theorem goP_app {m lo hi : Nat} {l : List UInt8} (r : List UInt8) (h : (goP m lo hi l).2 = true) : goP m lo hi (l ++ r) = goP m lo hi l := by
  induction m generalizing lo hi l with
  | zero => simp [goP]
  | succ m ih =>
    cases l with
    | nil => simp [goP] at h
    | cons x t =>
      simp only [List.cons_append, goP] at h ⊢
      by_cases hc : lo ≤ x.toNat ∧ x.toNat ≤ hi
      · rw [if_pos hc] at h
        rw [if_pos hc, if_pos hc, ih h]
      · rw [if_neg hc] at h
        simp at h
theorem goP_take {m lo hi : Nat} {l : List UInt8} (h : (goP m lo hi l).2 = true) : goP m lo hi (l.take m) = goP m lo hi l := by
  induction m generalizing lo hi l with
  | zero => simp [goP]
  | succ m ih =>
    cases l with
    | nil => simp
    | cons x t =>
      simp only [List.take_succ_cons, goP] at h ⊢
      by_cases hc : lo ≤ x.toNat ∧ x.toNat ≤ hi
      · rw [if_pos hc] at h
        rw [if_pos hc, if_pos hc, ih h]
      · rw [if_neg hc] at h
        simp at h
theorem goP_cut {m lo hi : Nat} {l : List UInt8} {x : UInt8} (r : List UInt8) (hx : x.toNat < 128) (hlo : 128 ≤ lo) : goP m lo hi (l ++ x :: r) = goP m lo hi l := by
  induction m generalizing lo hi l with
  | zero => simp [goP]
  | succ m ih =>
    cases l with
    | nil =>
      simp only [List.nil_append, goP]
      rw [if_neg (by omega)]
    | cons y t =>
      simp only [List.cons_append, goP]
      rw [ih (by omega)]
theorem tail_lo (c : Nat) : 128 ≤ (tailP c).1 := by
  unfold tailP
  repeat' split
  all_goals simp

theorem first_app {l : List UInt8} (r : List UInt8) (hl : l ≠ []) (h : (firstP l).2 = true) : firstP (l ++ r) = firstP l := by
  cases l with
  | nil => exact absurd rfl hl
  | cons c t =>
    simp only [List.cons_append, firstP] at h ⊢
    by_cases hc : c.toNat < 128
    · rw [if_pos hc, if_pos hc]
    · rw [if_neg hc] at h
      rw [if_neg hc, if_neg hc]
      simp only [Bool.and_eq_true] at h
      rw [goP_app r h.1]
theorem first_take {l : List UInt8} (hl : l ≠ []) (h : (firstP l).2 = true) : firstP (l.take (firstP l).1) = firstP l := by
  cases l with
  | nil => exact absurd rfl hl
  | cons c t =>
    simp only [firstP] at h ⊢
    by_cases hc : c.toNat < 128
    · simp [hc]
    · rw [if_neg hc] at h
      rw [if_neg hc]
      simp only [Bool.and_eq_true] at h
      simp only [List.take_succ_cons]
      rw [if_neg hc]
      have := goP_take h.1
      rw [goP_all h.1, this]
      rw [goP_all h.1]
theorem first_cut {l : List UInt8} {x : UInt8} (r : List UInt8) (hl : l ≠ []) (hx : x.toNat < 128) : firstP (l ++ x :: r) = firstP l := by
  cases l with
  | nil => exact absurd rfl hl
  | cons c t =>
    simp only [List.cons_append, firstP]
    rw [goP_cut r hx (tail_lo _)]

theorem right_app : ∀ (k : Nat) (a b : List UInt8), a.length ≤ k → right a = true → right (a ++ b) = right b
  | 0, a, b, h, _ => by
    obtain rfl : a = [] := List.length_eq_zero_iff.mp (by omega)
    rfl
  | k + 1, a, b, h, hr => by
    by_cases ha : a = []
    · subst ha
      rfl
    · have hf := first_le a ha
      rw [right_step a ha] at hr
      simp only [Bool.and_eq_true] at hr
      rw [right_step (a ++ b) (by simp [ha]), first_app b ha hr.1, hr.1, Bool.true_and, List.drop_append_of_le_length hf.2.1]
      exact right_app k _ b (by rw [List.length_drop]; omega) hr.2
theorem dec_app : ∀ (k : Nat) (a b : List UInt8), a.length ≤ k → right a = true → dec (a ++ b) = a ++ dec b
  | 0, a, b, h, _ => by
    obtain rfl : a = [] := List.length_eq_zero_iff.mp (by omega)
    rfl
  | k + 1, a, b, h, hr => by
    by_cases ha : a = []
    · subst ha
      rfl
    · have hf := first_le a ha
      rw [right_step a ha] at hr
      simp only [Bool.and_eq_true] at hr
      rw [dec_step (a ++ b) (by simp [ha]), first_app b ha hr.1, hr.1, if_pos rfl, List.drop_append_of_le_length hf.2.1, List.take_append_of_le_length hf.2.1, dec_app k _ b (by rw [List.length_drop]; omega) hr.2, ← List.append_assoc, List.take_append_drop]
theorem dec_right {a : List UInt8} (h : right a = true) : dec a = a := by
  have := dec_app a.length a [] (Nat.le_refl _) h
  simpa [dec_nil] using this
theorem right_chunk {l : List UInt8} (hl : l ≠ []) (h : (firstP l).2 = true) : right (l.take (firstP l).1) = true := by
  have hf := first_le l hl
  have hz : (l.take (firstP l).1).length = (firstP l).1 := by rw [List.length_take]; omega
  have hne : l.take (firstP l).1 ≠ [] := by
    intro e
    rw [e] at hz
    simp at hz
    omega
  rw [right_step _ hne, first_take hl h, h, Bool.true_and, List.drop_eq_nil_of_le (by omega)]
  exact right_nil
theorem right_dec : ∀ (k : Nat) (l : List UInt8), l.length ≤ k → right (dec l) = true
  | 0, l, h => by
    obtain rfl : l = [] := List.length_eq_zero_iff.mp (by omega)
    rfl
  | k + 1, l, h => by
    by_cases hl : l = []
    · subst hl
      rfl
    · have hf := first_le l hl
      rw [dec_step l hl]
      have ih := right_dec k (l.drop (firstP l).1) (by rw [List.length_drop]; omega)
      by_cases hw : (firstP l).2 = true
      · rw [if_pos hw, right_app _ _ _ (Nat.le_refl _) (right_chunk hl hw)]
        exact ih
      · rw [if_neg hw, right_app 3 bad _ (by simp [bad]) (by decide)]
        exact ih
theorem dec_cut : ∀ (k : Nat) (a b : List UInt8) (x : UInt8), a.length ≤ k → x.toNat < 128 → dec (a ++ x :: b) = dec a ++ dec (x :: b)
  | 0, a, b, x, h, _ => by
    obtain rfl : a = [] := List.length_eq_zero_iff.mp (by omega)
    rfl
  | k + 1, a, b, x, h, hx => by
    by_cases ha : a = []
    · subst ha
      rfl
    · have hf := first_le a ha
      rw [dec_step (a ++ x :: b) (by simp), dec_step a ha, first_cut b ha hx, List.drop_append_of_le_length hf.2.1, List.take_append_of_le_length hf.2.1, dec_cut k _ b x (by rw [List.length_drop]; omega) hx, List.append_assoc]
theorem right_cut : ∀ (k : Nat) (a b : List UInt8) (x : UInt8), a.length ≤ k → x.toNat < 128 → right (a ++ x :: b) = (right a && right (x :: b))
  | 0, a, b, x, h, _ => by
    obtain rfl : a = [] := List.length_eq_zero_iff.mp (by omega)
    rfl
  | k + 1, a, b, x, h, hx => by
    by_cases ha : a = []
    · subst ha
      rfl
    · have hf := first_le a ha
      rw [right_step (a ++ x :: b) (by simp), right_step a ha, first_cut b ha hx, List.drop_append_of_le_length hf.2.1, right_cut k _ b x (by rw [List.length_drop]; omega) hx, Bool.and_assoc]
theorem right_low (x : UInt8) (b : List UInt8) (hx : x.toNat < 128) : right (x :: b) = right b := by
  rw [right_step _ (by simp)]
  simp [firstP, hx]

theorem mark_first {l : List UInt8} (h : l.take 3 = [239, 187, 191]) : firstP l = (3, true) := by
  have e : l = [239, 187, 191] ++ l.drop 3 := by
    rw [← h, List.take_append_drop]
  rw [e, first_app _ (by simp) (by decide)]
  decide
theorem trim_right {l : List UInt8} (h : right l = true) : right (trim l) = true := by
  unfold trim
  by_cases hm : l.take 3 = [239, 187, 191]
  · rw [if_pos hm]
    have hl : l ≠ [] := by
      intro e
      rw [e] at hm
      simp at hm
    rw [right_step l hl, mark_first hm] at h
    simpa using h
  · rw [if_neg hm]
    exact h
theorem trim_len (l : List UInt8) : (trim l).length ≤ l.length := by
  unfold trim
  split
  · rw [List.length_drop]
    omega
  · exact Nat.le_refl _
/-- Of what begins with a whole sign that is no mark nothing is trimmed. -/
theorem trim_app {a : List UInt8} (r : List UInt8) (ha : a ≠ []) (hw : (firstP a).2 = true) (hm : a.take 3 ≠ [239, 187, 191]) : trim (a ++ r) = a ++ r := by
  unfold trim
  rw [if_neg]
  intro h
  have h1 := mark_first h
  rw [first_app r ha hw] at h1
  have hf := first_le a ha
  rw [h1] at hf
  rw [List.take_append_of_le_length hf.2.1] at h
  exact hm h
end Go.Proofs.Ytpflkcmjoiakfaa.PAll
