/- Bytes as signs, in plain Lean: how many bytes of the first sign stand there, and whether it is whole; what is decoded; whether all are signs. -/
import Derived.Laws.BytesArg
namespace Go.Proofs.Ytpflkcmjoiakfaa.Spec

/-- What may stand behind a first byte: the second one's least and greatest, and how many there are in all. -/
def tailP (c : Nat) : Nat × Nat × Nat :=
  if 194 ≤ c ∧ c ≤ 223 then (128, 191, 2) else if c = 224 then (160, 191, 3) else if c = 237 then (128, 159, 3) else if 225 ≤ c ∧ c ≤ 239 then (128, 191, 3)
  else if c = 240 then (144, 191, 4) else if c = 244 then (128, 143, 4) else if 241 ≤ c ∧ c ≤ 243 then (128, 191, 4) else (128, 191, 1)

/-- Of m bytes that are to come: how many come, and whether all do. -/
def goP : Nat → Nat → Nat → List UInt8 → Nat × Bool
  | 0, _, _, _ => (0, true)
  | _ + 1, _, _, [] => (0, false)
  | m + 1, lo, hi, x :: t => if lo ≤ x.toNat ∧ x.toNat ≤ hi then ((goP m 128 191 t).1 + 1, (goP m 128 191 t).2) else (0, false)

/-- The first sign: how many bytes of it stand there, and whether it is whole. -/
def firstP : List UInt8 → Nat × Bool
  | [] => (1, false)
  | c :: t => if c.toNat < 128 then (1, true) else ((goP ((tailP c.toNat).2.2 - 1) (tailP c.toNat).1 (tailP c.toNat).2.1 t).1 + 1, (goP ((tailP c.toNat).2.2 - 1) (tailP c.toNat).1 (tailP c.toNat).2.1 t).2 && decide (1 < (tailP c.toNat).2.2))

def bad : List UInt8 := [239, 191, 189]

theorem goP_le (m lo hi : Nat) (l : List UInt8) : (goP m lo hi l).1 ≤ m ∧ (goP m lo hi l).1 ≤ l.length := by
  induction m generalizing lo hi l with
  | zero => simp [goP]
  | succ m ih =>
    cases l with
    | nil => simp [goP]
    | cons x t =>
      have := ih 128 191 t
      unfold goP
      split
      · simp
        omega
      · simp

theorem goP_all {m lo hi : Nat} {l : List UInt8} (h : (goP m lo hi l).2 = true) : (goP m lo hi l).1 = m := by
  induction m generalizing lo hi l with
  | zero => simp [goP]
  | succ m ih =>
    cases l with
    | nil => simp [goP] at h
    | cons x t =>
      unfold goP at h ⊢
      split
      · rename_i hc
        rw [if_pos hc] at h
        have := ih h
        simp
        exact this
      · rename_i hc
        rw [if_neg hc] at h
        simp at h

theorem tail_n (c : Nat) : 1 ≤ (tailP c).2.2 ∧ (tailP c).2.2 ≤ 4 := by
  unfold tailP
  repeat' split
  all_goals simp

theorem first_le (l : List UInt8) (h : l ≠ []) : 1 ≤ (firstP l).1 ∧ (firstP l).1 ≤ l.length ∧ (firstP l).1 ≤ 4 := by
  cases l with
  | nil => exact absurd rfl h
  | cons c t =>
    by_cases hc : c.toNat < 128
    · simp only [firstP, if_pos hc, List.length_cons]
      omega
    · have h1 := goP_le ((tailP c.toNat).2.2 - 1) (tailP c.toNat).1 (tailP c.toNat).2.1 t
      have h2 := tail_n c.toNat
      simp only [firstP, if_neg hc, List.length_cons]
      omega

/-- What is decoded, in so many rounds. -/
def decK : Nat → List UInt8 → List UInt8
  | 0, _ => []
  | _ + 1, [] => []
  | k + 1, c :: t => (if (firstP (c :: t)).2 = true then (c :: t).take (firstP (c :: t)).1 else bad) ++ decK k ((c :: t).drop (firstP (c :: t)).1)
def rightK : Nat → List UInt8 → Bool
  | 0, _ => true
  | _ + 1, [] => true
  | k + 1, c :: t => (firstP (c :: t)).2 && rightK k ((c :: t).drop (firstP (c :: t)).1)

theorem decK_more : ∀ (k j : Nat) (l : List UInt8), l.length ≤ k → l.length ≤ j → decK k l = decK j l
  | 0, j, l, h, _ => by
    obtain rfl : l = [] := List.length_eq_zero_iff.mp (by omega)
    cases j <;> rfl
  | k + 1, 0, l, _, h => by
    obtain rfl : l = [] := List.length_eq_zero_iff.mp (by omega)
    rfl
  | k + 1, j + 1, [], _, _ => rfl
  | k + 1, j + 1, c :: t, h1, h2 => by
    have hf := first_le (c :: t) (by simp)
    simp only [decK]
    rw [decK_more k j _ (by simp at h1 ⊢; omega) (by simp at h2 ⊢; omega)]
theorem rightK_more : ∀ (k j : Nat) (l : List UInt8), l.length ≤ k → l.length ≤ j → rightK k l = rightK j l
  | 0, j, l, h, _ => by
    obtain rfl : l = [] := List.length_eq_zero_iff.mp (by omega)
    cases j <;> rfl
  | k + 1, 0, l, _, h => by
    obtain rfl : l = [] := List.length_eq_zero_iff.mp (by omega)
    rfl
  | k + 1, j + 1, [], _, _ => rfl
  | k + 1, j + 1, c :: t, h1, h2 => by
    have hf := first_le (c :: t) (by simp)
    simp only [rightK]
    rw [rightK_more k j _ (by simp at h1 ⊢; omega) (by simp at h2 ⊢; omega)]

def dec (l : List UInt8) : List UInt8 := decK l.length l
def right (l : List UInt8) : Bool := rightK l.length l

theorem dec_nil : dec [] = [] := rfl
theorem right_nil : right [] = true := rfl
theorem dec_step (l : List UInt8) (h : l ≠ []) : dec l = (if (firstP l).2 = true then l.take (firstP l).1 else bad) ++ dec (l.drop (firstP l).1) := by
  cases l with
  | nil => exact absurd rfl h
  | cons c t =>
    have hf := first_le (c :: t) (by simp)
    show decK (t.length + 1) (c :: t) = _
    simp only [decK]
    rw [decK_more t.length _ _ (by simp; omega) (Nat.le_refl _)]
    rfl
theorem right_step (l : List UInt8) (h : l ≠ []) : right l = ((firstP l).2 && right (l.drop (firstP l).1)) := by
  cases l with
  | nil => exact absurd rfl h
  | cons c t =>
    have hf := first_le (c :: t) (by simp)
    show rightK (t.length + 1) (c :: t) = _
    simp only [rightK]
    rw [rightK_more t.length _ _ (by simp; omega) (Nat.le_refl _)]
    rfl

/-- Without a mark at its beginning. -/
def trim (l : List UInt8) : List UInt8 := if l.take 3 = [239, 187, 191] then l.drop 3 else l
def decode (l : List UInt8) : List UInt8 := dec (trim l)

theorem dec_len : ∀ (k : Nat) (l : List UInt8), l.length ≤ k → (dec l).length ≤ 3 * l.length
  | 0, l, h => by
    obtain rfl : l = [] := List.length_eq_zero_iff.mp (by omega)
    simp [dec_nil]
  | k + 1, l, h => by
    by_cases hl : l = []
    · subst hl
      simp [dec_nil]
    · have hf := first_le l hl
      have ih := dec_len k (l.drop (firstP l).1) (by simp; omega)
      rw [dec_step l hl, List.length_append]
      rw [List.length_drop] at ih
      split
      · rw [List.length_take]
        omega
      · simp [bad]
        omega
end Go.Proofs.Ytpflkcmjoiakfaa.Spec
