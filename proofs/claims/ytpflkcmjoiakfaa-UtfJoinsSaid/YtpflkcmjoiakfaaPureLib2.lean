/- The model's reading of a sign against ours; the bytes of a number's sign; the reference's Decode. -/
import Derived.Test.YtpflkcmjoiakfaaPureLib
import Derived.Test.YtpflkcmjoiakfaaPAllx11
import Derived.Test.YtpflkcmjoiakfaaPAllx13
set_option linter.unusedVariables false
namespace Go.Proofs.Ytpflkcmjoiakfaa.PAll
open Go.RowKit Go.Lib Go.Proofs.Ytpflkcmjoiakfaa.Spec Go.Proofs.YtpflkcmjoiakfaaW.PrintWords Go.Proofs.YtpflkcmjoiakfaaW.PrintMore

/-! A range's sign. -/
/-- The model's reading, of a list. -/
def decL (L : List UInt8) : Nat × Nat :=
  let at' (k : Nat) : Nat := (L.getD k 0).toNat
  let cont (k : Nat) : Bool := decide (k < L.length) && at' k / 64 == 2
  let b0 := at' 0
  if b0 < 0x80 then (b0, 1)
  else if b0 / 32 == 6 && cont 1 then
    let c := (b0 % 32) * 64 + at' 1 % 64
    if c ≥ 0x80 then (c, 2) else (65533, 1)
  else if b0 / 16 == 14 && cont 1 && cont 2 then
    let c := (b0 % 16) * 4096 + (at' 1 % 64) * 64 + at' 2 % 64
    if c ≥ 0x800 && Utf8.valid c then (c, 3) else (65533, 1)
  else if b0 / 8 == 30 && cont 1 && cont 2 && cont 3 then
    let c := (b0 % 8) * 262144 + (at' 1 % 64) * 4096 + (at' 2 % 64) * 64 + at' 3 % 64
    if c ≥ 0x10000 && Utf8.valid c then (c, 4) else (65533, 1)
  else (65533, 1)

theorem decL_of (s : ByteArray) (pos : Nat) : Utf8.decode s pos = decL (s.data.toList.drop pos) := by
  have hsl : s.data.toList.length = s.size := by simp
  have hget : ∀ k, s.get! (pos + k) = (s.data.toList.drop pos).getD k 0 := by
    intro k
    rw [List.getD_eq_getElem?_getD, List.getElem?_drop]
    show s.data[pos + k]! = _
    rw [getElem!_def]
    simp only [Array.getElem?_toList]
    cases s.data[pos + k]? <;> rfl
  have hlt : ∀ k, decide (pos + k < s.size) = decide (k < (s.data.toList.drop pos).length) := by
    intro k
    rw [List.length_drop, hsl]
    congr 1
    apply propext
    omega
  unfold Utf8.decode decL
  simp only [hget, hlt, Utf8.runeError]

theorem valid_nat (v : Nat) : Utf8.valid (v : Int) = decide (v < 55296 ∨ (57344 ≤ v ∧ v ≤ 1114111)) := by
  unfold Utf8.valid
  by_cases h1 : v < 55296
  · simp [h1]
    left
    omega
  · by_cases h2 : 57344 ≤ v ∧ v ≤ 1114111
    · simp [h2]
      right
      omega
    · simp [h1, h2]
      omega

theorem tail_3' {c : Nat} (h : 224 ≤ c ∧ c ≤ 239) : ∃ lo hi, tailP c = (lo, hi, 3) ∧ (c = 224 → lo = 160) ∧ (c ≠ 224 → lo = 128) ∧ (c = 237 → hi = 159) ∧ (c ≠ 237 → hi = 191) :=
  ⟨_, _, tail_3 h, fun e => if_pos e, fun e => if_neg e, fun e => if_pos e, fun e => if_neg e⟩
theorem tail_4' {c : Nat} (h : 240 ≤ c ∧ c ≤ 244) : ∃ lo hi, tailP c = (lo, hi, 4) ∧ (c = 240 → lo = 144) ∧ (c ≠ 240 → lo = 128) ∧ (c = 244 → hi = 143) ∧ (c ≠ 244 → hi = 191) :=
  ⟨_, _, tail_4 h, fun e => if_pos e, fun e => if_neg e, fun e => if_pos e, fun e => if_neg e⟩
theorem goP_one (x : UInt8) (t : List UInt8) (m lo hi : Nat) : goP (m + 1) lo hi (x :: t) = (if lo ≤ x.toNat ∧ x.toNat ≤ hi then ((goP m 128 191 t).1 + 1, (goP m 128 191 t).2) else (0, false)) := rfl

/-- What a range reads is a whole sign where ours is, as long, and the error but there where it stands. -/
def Agrees (L : List UInt8) (d : Nat × Nat) (f : Nat × Bool) : Prop :=
  (f.2 = true → d.2 = f.1 ∧ (d.1 = 65533 → L.take 3 = bad)) ∧ (f.2 = false → d.1 = 65533 ∧ L.take 3 ≠ bad)

theorem agrees_bad {L : List UInt8} {n : Nat} (h : L.take 3 ≠ bad) : Agrees L (65533, 1) (n, false) := ⟨fun h => by simp at h, fun _ => ⟨rfl, h⟩⟩
theorem agrees_ok {L : List UInt8} {v n : Nat} (h : v ≠ 65533) : Agrees L (v, n) (n, true) := ⟨fun _ => ⟨rfl, fun e => absurd e h⟩, fun h => by simp at h⟩
theorem not_bad1 {c : UInt8} {t : List UInt8} (h : c.toNat ≠ 239) : (c :: t).take 3 ≠ bad := by
  intro e
  simp [bad] at e
  have := e.1
  subst this
  exact h rfl

theorem agrees (L : List UInt8) (hL : L ≠ []) : Agrees L (decL L) (firstP L) := by
  cases L with
  | nil => exact absurd rfl hL
  | cons c t =>
    have hc := byte_lt c
    have nc : (c :: t).getD 0 0 = c := rfl
    by_cases h1 : c.toNat < 128
    · have e1 : decL (c :: t) = (c.toNat, 1) := by
        unfold decL
        simp only [nc]
        rw [if_pos h1]
      have e2 : firstP (c :: t) = (1, true) := by simp only [firstP, if_pos h1]
      rw [e1, e2]
      exact agrees_ok (by omega)
    · have e2 : firstP (c :: t) = ((goP ((tailP c.toNat).2.2 - 1) (tailP c.toNat).1 (tailP c.toNat).2.1 t).1 + 1, (goP ((tailP c.toNat).2.2 - 1) (tailP c.toNat).1 (tailP c.toNat).2.1 t).2 && decide (1 < (tailP c.toNat).2.2)) := by simp only [firstP, if_neg h1]
      rw [e2]
      unfold decL
      simp only [nc]
      rw [if_neg h1]
      by_cases h2 : c.toNat / 32 = 6
      · -- of two
        cases t with
        | nil =>
          rw [if_neg (by simp), if_neg (by simp), if_neg (by simp)]
          by_cases h : c.toNat < 194
          · rw [tail_1 (Or.inl h)]
            exact agrees_bad (not_bad1 (by omega))
          · rw [tail_2 (by omega)]
            exact agrees_bad (not_bad1 (by omega))
        | cons a t =>
          have ea : (c :: a :: t).getD 1 0 = a := rfl
          simp only [ea]
          have ha := byte_lt a
          by_cases h3 : a.toNat / 64 = 2
          · rw [if_pos (by simp [h2, h3])]
            by_cases h : c.toNat < 194
            · rw [if_neg (by omega), tail_1 (Or.inl h)]
              exact agrees_bad (not_bad1 (by omega))
            · rw [if_pos (by omega), tail_2 (by omega)]
              simp only [goP_one]
              rw [if_pos (by omega)]
              exact agrees_ok (by omega)
          · rw [if_neg (by simp [h3]), if_neg (by simp [h3]), if_neg (by simp [h3])]
            by_cases h : c.toNat < 194
            · rw [tail_1 (Or.inl h)]
              exact agrees_bad (not_bad1 (by omega))
            · rw [tail_2 (by omega)]
              simp only [goP_one]
              rw [if_neg (by omega)]
              exact agrees_bad (not_bad1 (by omega))
      · rw [if_neg (by simp [h2])]
        by_cases h4 : c.toNat / 16 = 14
        · -- of three
          obtain ⟨lo, hi, ht3, q1, q2, q3, q4⟩ := tail_3' (c := c.toNat) (by omega)
          rw [ht3]
          cases t with
          | nil =>
            rw [if_neg (by simp), if_neg (by simp)]
            exact agrees_bad (by simp [bad])
          | cons a t =>
            have ea : (c :: a :: t).getD 1 0 = a := rfl
            have ha := byte_lt a
            simp only [ea]
            cases t with
            | nil =>
              rw [if_neg (by simp), if_neg (by simp)]
              simp only [goP_one]
              by_cases h6 : lo ≤ a.toNat ∧ a.toNat ≤ hi
              · rw [if_pos h6]
                exact agrees_bad (by simp [bad])
              · rw [if_neg h6]
                exact agrees_bad (by simp [bad])
            | cons b t =>
              have eb : (c :: a :: b :: t).getD 2 0 = b := rfl
              have hb := byte_lt b
              simp only [eb]
              have hx : ∀ w : Bool, (c :: a :: b :: t).take 3 = bad → c.toNat = 239 ∧ a.toNat = 191 ∧ b.toNat = 189 := by
                intro _ e
                simp [bad] at e
                obtain ⟨rfl, rfl, rfl⟩ := e
                decide
              by_cases h3 : a.toNat / 64 = 2
              · by_cases h5 : b.toNat / 64 = 2
                · rw [if_pos (by simp [h4, h3, h5])]
                  simp only [goP_one, valid_nat]
                  by_cases h6 : lo ≤ a.toNat ∧ a.toNat ≤ hi
                  · rw [if_pos h6, if_pos (show 128 ≤ b.toNat ∧ b.toNat ≤ 191 by omega), if_pos]
                    · refine ⟨fun _ => ⟨rfl, fun e => ?_⟩, fun h => by simp [goP] at h⟩
                      have e' : c.toNat % 16 * 4096 + a.toNat % 64 * 64 + b.toNat % 64 = 65533 := e
                      have r1 : c = 239 := UInt8.toNat_inj.1 (by simp; omega)
                      have r2 : a = 191 := UInt8.toNat_inj.1 (by simp; omega)
                      have r3 : b = 189 := UInt8.toNat_inj.1 (by simp; omega)
                      subst r1 r2 r3
                      rfl
                    · simp only [Bool.and_eq_true, decide_eq_true_eq]
                      omega
                  · rw [if_neg h6, if_neg]
                    · refine agrees_bad (fun e => ?_)
                      have := hx true e
                      omega
                    · simp only [Bool.and_eq_true, decide_eq_true_eq]
                      omega
                · rw [if_neg (by simp [h5]), if_neg (by simp [h5])]
                  simp only [goP_one]
                  have hnb : (c :: a :: b :: t).take 3 ≠ bad := fun e => by have := hx true e; omega
                  by_cases h6 : lo ≤ a.toNat ∧ a.toNat ≤ hi
                  · rw [if_pos h6, if_neg (by omega)]
                    exact agrees_bad hnb
                  · rw [if_neg h6]
                    exact agrees_bad hnb
              · rw [if_neg (by simp [h3]), if_neg (by simp [h3])]
                have hnb : (c :: a :: b :: t).take 3 ≠ bad := fun e => by have := hx true e; omega
                simp only [goP_one]
                rw [if_neg (by omega)]
                exact agrees_bad hnb
        · rw [if_neg (by simp [h4])]
          have hnb : ∀ t, (c :: t).take 3 ≠ bad := fun t => not_bad1 (by omega)
          by_cases h7 : c.toNat / 8 = 30
          · -- of four
            by_cases hc5 : 245 ≤ c.toNat
            · rw [tail_1 (Or.inr hc5)]
              have e0 : ((goP (1 - 1) 128 191 t).1 + 1, (goP (1 - 1) 128 191 t).2 && decide (1 < 1)) = (1, false) := by simp [goP]
              rw [e0]
              split
              · simp only [valid_nat]
                rw [if_neg]
                · exact agrees_bad (hnb _)
                · simp only [Bool.and_eq_true, decide_eq_true_eq]
                  omega
              · exact agrees_bad (hnb _)
            · obtain ⟨lo, hi, ht4, q1, q2, q3, q4⟩ := tail_4' (c := c.toNat) (by omega)
              rw [ht4]
              cases t with
              | nil =>
                rw [if_neg (by simp)]
                exact agrees_bad (hnb _)
              | cons a t =>
                have ea : (c :: a :: t).getD 1 0 = a := rfl
                have ha := byte_lt a
                simp only [ea]
                cases t with
                | nil =>
                  rw [if_neg (by simp)]
                  simp only [goP_one]
                  by_cases h6 : lo ≤ a.toNat ∧ a.toNat ≤ hi
                  · rw [if_pos h6]
                    exact agrees_bad (hnb _)
                  · rw [if_neg h6]
                    exact agrees_bad (hnb _)
                | cons b t =>
                  have eb : (c :: a :: b :: t).getD 2 0 = b := rfl
                  have hb := byte_lt b
                  simp only [eb]
                  cases t with
                  | nil =>
                    rw [if_neg (by simp)]
                    simp only [goP_one]
                    by_cases h6 : lo ≤ a.toNat ∧ a.toNat ≤ hi
                    · rw [if_pos h6]
                      by_cases h8 : 128 ≤ b.toNat ∧ b.toNat ≤ 191
                      · rw [if_pos h8]
                        exact agrees_bad (hnb _)
                      · rw [if_neg h8]
                        exact agrees_bad (hnb _)
                    · rw [if_neg h6]
                      exact agrees_bad (hnb _)
                  | cons d t =>
                    have ed : (c :: a :: b :: d :: t).getD 3 0 = d := rfl
                    have hd := byte_lt d
                    simp only [ed]
                    simp only [goP_one, valid_nat]
                    by_cases h3 : a.toNat / 64 = 2 ∧ b.toNat / 64 = 2 ∧ d.toNat / 64 = 2
                    · rw [if_pos (by simp [h7, h3])]
                      by_cases h6 : lo ≤ a.toNat ∧ a.toNat ≤ hi
                      · rw [if_pos h6, if_pos (show 128 ≤ b.toNat ∧ b.toNat ≤ 191 by omega), if_pos (show 128 ≤ d.toNat ∧ d.toNat ≤ 191 by omega), if_pos]
                        · exact agrees_ok (by omega)
                        · simp only [Bool.and_eq_true, decide_eq_true_eq]
                          omega
                      · rw [if_neg h6, if_neg]
                        · exact agrees_bad (hnb _)
                        · simp only [Bool.and_eq_true, decide_eq_true_eq]
                          omega
                    · rw [if_neg (by simp; omega)]
                      by_cases h6 : lo ≤ a.toNat ∧ a.toNat ≤ hi
                      · rw [if_pos h6]
                        have ha2 : a.toNat / 64 = 2 := by omega
                        by_cases hb2 : 128 ≤ b.toNat ∧ b.toNat ≤ 191
                        · rw [if_pos hb2, if_neg (by omega)]
                          exact agrees_bad (hnb _)
                        · rw [if_neg hb2]
                          exact agrees_bad (hnb _)
                      · rw [if_neg h6]
                        exact agrees_bad (hnb _)
          · rw [if_neg (by simp [h7]), tail_1 (by omega)]
            exact agrees_bad (hnb _)

theorem has_bad (a : ByteArray) : strings_HasPrefix.f a ⟨#[239, 191, 189]⟩ = some (decide (a.data.toList.take 3 = bad)) := by
  unfold strings_HasPrefix.f stringslite_HasPrefix.f
  have hz : (⟨#[239, 191, 189]⟩ : ByteArray).size = 3 := rfl
  simp only [hz]
  have hsl : a.data.toList.length = a.size := by simp
  by_cases h : 3 ≤ a.size
  · rw [if_pos (by omega), if_pos (by omega), if_pos (by omega)]
    simp only [Option.bind_some]
    rw [Lib.extract_toList, ByteArray.toList_eq]
    congr 1
    rw [Bool.eq_iff_iff, beq_iff_eq, decide_eq_true_iff]
    simp [bad]
  · rw [if_neg (by omega)]
    simp only [Option.bind_some]
    rw [decide_eq_false]
    intro e
    have := congrArg List.length e
    simp [bad] at this
    omega

theorem rightFrom_at (s : ByteArray) : ∀ (k pos : Nat), s.size < pos + k → rightFrom s k pos = right (s.data.toList.drop pos)
  | 0, pos, h => by
    have hsl : s.data.toList.length = s.size := by simp
    rw [List.drop_eq_nil_of_le (by omega)]
    rfl
  | k + 1, pos, h => by
    have hsl : s.data.toList.length = s.size := by simp
    by_cases hp : pos < s.size
    · have hL : s.data.toList.drop pos ≠ [] := by
        intro e
        have := congrArg List.length e
        simp at this
        omega
      have hf := first_le _ hL
      have hag := agrees _ hL
      rw [← decL_of] at hag
      have hx : (s.extract pos s.size).data.toList = s.data.toList.drop pos := by
        rw [Lib.extract_data]
        exact List.take_of_length_le (by rw [List.length_drop, hsl]; exact Nat.le_refl _)
      simp only [rightFrom]
      rw [if_pos hp, has_bad, hx, right_step _ hL]
      cases hw : (firstP (s.data.toList.drop pos)).2 with
      | true =>
        obtain ⟨h1, h2⟩ := hag.1 hw
        rw [if_neg]
        · rw [Bool.true_and, List.drop_drop, h1]
          exact rightFrom_at s k _ (by omega)
        · rintro ⟨h3, h4⟩
          have := h2 h3
          simp [this] at h4
      | false =>
        obtain ⟨h1, h2⟩ := hag.2 hw
        rw [if_pos ⟨h1, by simp [h2]⟩, Bool.false_and]
    · rw [right_end s _ _ hp, List.drop_eq_nil_of_le (by omega)]
      rfl

theorem right_at (s : ByteArray) : utf_Right.f s = some (right s.data.toList) := by
  unfold utf_Right.f
  rw [rightFrom_at s _ 0 (by omega), List.drop_zero]
end Go.Proofs.Ytpflkcmjoiakfaa.PAll
