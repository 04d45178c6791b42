/- How long a sign is hangs on its number, and greater numbers have greater bytes: of every two numbers the law's call returns true. No condition. -/
import Derived.Test.YtpflkcmjoiakfaaPAllx19
import Derived.Test.YtpflkcmjoiakfaaPureLib3
set_option linter.unusedVariables false
namespace Go.Proofs.Ytpflkcmjoiakfaa.Pure
open Go.RowKit Go.Lib Go.Proofs.Ytpflkcmjoiakfaa.PAll Go.Proofs.Ytpflkcmjoiakfaa.Spec

theorem sign_ok (v : Nat) (h : okS (v : Int)) : signL (v : Int) = (sg v).map UInt8.ofNat := by
  unfold signL
  rw [if_pos h, Int.toNat_natCast]

theorem ofN' {x y : Nat} (hx : x < 256) (hy : y < 256) : Op.bytesLess [UInt8.ofNat x] [UInt8.ofNat y] = decide (x < y) := by
  rw [bl_cons, ofN hx, ofN hy, bl_nil, Bool.and_false, Bool.or_false]

set_option maxHeartbeats 2000000 in
/-- Greater numbers have greater bytes. -/
theorem less_at (a b : Nat) (ha : a ≤ 1114111) (hb : b ≤ 1114111) : Op.bytesLess ((sg a).map UInt8.ofNat) ((sg b).map UInt8.ofNat) = decide (a < b) := by
  unfold sg
  by_cases a1 : a < 128
  · rw [if_pos a1]
    by_cases b1 : b < 128
    · rw [if_pos b1]
      exact ofN' (by omega) (by omega)
    · rw [if_neg b1, decide_eq_true (by omega)]
      by_cases b2 : b < 2048
      · rw [if_pos b2]
        simp only [List.map_cons, List.map_nil, bl_cons]
        rw [ofN (by omega), ofN (by omega), decide_eq_true (by omega), Bool.true_or]
      · rw [if_neg b2]
        by_cases b3 : b < 65536
        · rw [if_pos b3]
          simp only [List.map_cons, List.map_nil, bl_cons]
          rw [ofN (by omega), ofN (by omega), decide_eq_true (by omega), Bool.true_or]
        · rw [if_neg b3]
          simp only [List.map_cons, List.map_nil, bl_cons]
          rw [ofN (by omega), ofN (by omega), decide_eq_true (by omega), Bool.true_or]
  · rw [if_neg a1]
    by_cases b1 : b < 128
    · rw [if_pos b1, decide_eq_false (by omega)]
      by_cases a2 : a < 2048
      · rw [if_pos a2]
        simp only [List.map_cons, List.map_nil, bl_cons]
        rw [ofN (by omega), ofN (by omega), decide_eq_false (by omega), decide_eq_false (by omega)]
        rfl
      · rw [if_neg a2]
        by_cases a3 : a < 65536
        · rw [if_pos a3]
          simp only [List.map_cons, List.map_nil, bl_cons]
          rw [ofN (by omega), ofN (by omega), decide_eq_false (by omega), decide_eq_false (by omega)]
          rfl
        · rw [if_neg a3]
          simp only [List.map_cons, List.map_nil, bl_cons]
          rw [ofN (by omega), ofN (by omega), decide_eq_false (by omega), decide_eq_false (by omega)]
          rfl
    · rw [if_neg b1]
      by_cases a2 : a < 2048
      · rw [if_pos a2]
        by_cases b2 : b < 2048
        · rw [if_pos b2]
          simp only [List.map_cons, List.map_nil, bl_cons, bl_nil, Bool.and_false, Bool.or_false]
          rw [ofN (by omega), ofN (by omega), ofN (by omega), ofN (by omega), Bool.eq_iff_iff]
          simp only [Bool.or_eq_true, Bool.and_eq_true, decide_eq_true_eq]
          omega
        · rw [if_neg b2, decide_eq_true (by omega)]
          by_cases b3 : b < 65536
          · rw [if_pos b3]
            simp only [List.map_cons, List.map_nil, bl_cons]
            rw [ofN (by omega), ofN (by omega), decide_eq_true (by omega), Bool.true_or]
          · rw [if_neg b3]
            simp only [List.map_cons, List.map_nil, bl_cons]
            rw [ofN (by omega), ofN (by omega), decide_eq_true (by omega), Bool.true_or]
      · rw [if_neg a2]
        by_cases b2 : b < 2048
        · rw [if_pos b2, decide_eq_false (by omega)]
          by_cases a3 : a < 65536
          · rw [if_pos a3]
            simp only [List.map_cons, List.map_nil, bl_cons]
            rw [ofN (by omega), ofN (by omega), decide_eq_false (by omega), decide_eq_false (by omega)]
            rfl
          · rw [if_neg a3]
            simp only [List.map_cons, List.map_nil, bl_cons]
            rw [ofN (by omega), ofN (by omega), decide_eq_false (by omega), decide_eq_false (by omega)]
            rfl
        · rw [if_neg b2]
          by_cases a3 : a < 65536
          · rw [if_pos a3]
            by_cases b3 : b < 65536
            · rw [if_pos b3]
              simp only [List.map_cons, List.map_nil, bl_cons, bl_nil, Bool.and_false, Bool.or_false]
              rw [ofN (by omega), ofN (by omega), ofN (by omega), ofN (by omega), ofN (by omega), ofN (by omega), Bool.eq_iff_iff]
              simp only [Bool.or_eq_true, Bool.and_eq_true, decide_eq_true_eq]
              omega
            · rw [if_neg b3, decide_eq_true (by omega)]
              simp only [List.map_cons, List.map_nil, bl_cons]
              rw [ofN (by omega), ofN (by omega), decide_eq_true (by omega), Bool.true_or]
          · rw [if_neg a3]
            by_cases b3 : b < 65536
            · rw [if_pos b3, decide_eq_false (by omega)]
              simp only [List.map_cons, List.map_nil, bl_cons]
              rw [ofN (by omega), ofN (by omega), decide_eq_false (by omega), decide_eq_false (by omega)]
              rfl
            · rw [if_neg b3]
              simp only [List.map_cons, List.map_nil, bl_cons, bl_nil, Bool.and_false, Bool.or_false]
              rw [ofN (by omega), ofN (by omega), ofN (by omega), ofN (by omega), ofN (by omega), ofN (by omega), ofN (by omega), ofN (by omega), Bool.eq_iff_iff]
              simp only [Bool.or_eq_true, Bool.and_eq_true, decide_eq_true_eq]
              omega
theorem bl_self : ∀ l : List UInt8, Op.bytesLess l l = false
  | [] => rfl
  | x :: t => by
    rw [bl_cons, bl_self t, decide_eq_false (Nat.lt_irrefl _), Bool.and_false, Bool.or_false]
theorem same_at (a b : Nat) (ha : a ≤ 1114111) (hb : b ≤ 1114111) : ((sg a).map UInt8.ofNat = (sg b).map UInt8.ofNat) ↔ a = b := by
  constructor
  · intro h
    have h1 := less_at a b ha hb
    have h2 := less_at b a hb ha
    rw [h, bl_self] at h1
    rw [h, bl_self] at h2
    have := of_decide_eq_false h1.symm
    have := of_decide_eq_false h2.symm
    omega
  · rintro rfl
    rfl

theorem numbers_in (a b : Nat) (ha : okS (a : Int)) (hb : okS (b : Int)) : flaillaw01_UtfNumbers.j0 (10 + 1) true (a : Int) (b : Int) ⟨(signL (a : Int)).toArray⟩ ⟨(signL (b : Int)).toArray⟩ false = some true := by
  have ha' := ha
  have hb' := hb
  unfold okS at ha' hb'
  have e1 : (decide ((a : Int) < (b : Int)) == Op.bytesLess (signL (a : Int)) (signL (b : Int))) = true := by
    rw [sign_ok a ha, sign_ok b hb, less_at a b (by omega) (by omega), beq_iff_eq]
    congr 1
    apply propext
    omega
  have e2 : (((a : Int) == (b : Int)) == (signL (a : Int) == signL (b : Int))) = true := by
    rw [sign_ok a ha, sign_ok b hb, beq_iff_eq, Bool.eq_iff_iff, beq_iff_eq, beq_iff_eq, same_at a b (by omega) (by omega)]
    omega
  have hlen : (signL (a : Int)).length = (sg a).length := by rw [sign_ok a ha, List.length_map]
  rw [flaillaw01_UtfNumbers.j0, if_neg (by decide)]
  simp only [ByteArray.toList_eq, ba_size, if_true]
  rw [e1, e2, hlen]
  unfold sg
  by_cases h1 : a < 128
  · rw [if_pos (by omega), if_pos h1]
    rfl
  · rw [if_neg (by omega), if_neg h1]
    by_cases h2 : a < 2048
    · rw [if_pos (by omega), if_pos h2]
      rfl
    · rw [if_neg (by omega), if_neg h2]
      by_cases h3 : a < 65536
      · rw [if_pos (by omega), if_pos h3]
        rfl
      · rw [if_neg (by omega), if_neg h3]
        rfl
theorem numbers_bad (a b : Int) (h : signL a = bad ∨ signL b = bad) : flaillaw01_UtfNumbers.j0 (10 + 1) true a b ⟨(signL a).toArray⟩ ⟨(signL b).toArray⟩ true = some true := by
  rw [flaillaw01_UtfNumbers.j0, if_pos rfl, if_pos rfl]
  simp only [ByteArray.toList_eq]
  show (if signL a = bad then some true else some (signL b == bad)) = some true
  by_cases h1 : signL a = bad
  · rw [if_pos h1]
  · rw [if_neg h1]
    rcases h with h | h
    · exact absurd h h1
    · rw [h, beq_self_eq_true]
theorem bad_of {n : Int} (h : ¬ okS n) : signL n = bad := by
  unfold signL
  rw [if_neg h]

theorem UtfNumbers : flaillaw01_UtfNumbers.Pure := by
  intro m n hm hn
  simp [Lit.wf, IntKind.min, IntKind.max, IntKind.signed, IntKind.bits] at hm hn
  have hma : wrap64 (Int.tmod m 1114112) = m % 1114112 := by
    rw [md hm.1, w64 (by omega) (by omega)]
  have hnb : wrap64 (Int.tmod n 1114112) = n % 1114112 := by
    rw [md hn.1, w64 (by omega) (by omega)]
  refine ⟨10 + 1, ?_⟩
  unfold flaillaw01_UtfNumbers.f
  rw [hma, hnb, awake_at, sign_at, sign_at]
  simp only [Option.bind_some]
  obtain ⟨a, ha⟩ : ∃ a : Nat, m % 1114112 = (a : Int) := ⟨(m % 1114112).toNat, by omega⟩
  obtain ⟨b, hb⟩ : ∃ b : Nat, n % 1114112 = (b : Int) := ⟨(n % 1114112).toNat, by omega⟩
  rw [ha, hb]
  have ba : a < 1114112 := by omega
  have bb : b < 1114112 := by omega
  by_cases h1 : (a : Int) ≥ 55296
  · rw [if_pos h1]
    by_cases h2 : (a : Int) ≤ 57343
    · rw [if_pos h2]
      exact numbers_bad _ _ (Or.inl (bad_of (by unfold okS; omega)))
    · rw [if_neg h2]
      by_cases h3 : (b : Int) ≥ 55296
      · rw [if_pos h3]
        by_cases h4 : (b : Int) ≤ 57343
        · rw [decide_eq_true h4]
          exact numbers_bad _ _ (Or.inr (bad_of (by unfold okS; omega)))
        · rw [decide_eq_false h4]
          exact numbers_in a b (by unfold okS; omega) (by unfold okS; omega)
      · rw [if_neg h3]
        exact numbers_in a b (by unfold okS; omega) (by unfold okS; omega)
  · rw [if_neg h1]
    by_cases h3 : (b : Int) ≥ 55296
    · rw [if_pos h3]
      by_cases h4 : (b : Int) ≤ 57343
      · rw [decide_eq_true h4]
        exact numbers_bad _ _ (Or.inr (bad_of (by unfold okS; omega)))
      · rw [decide_eq_false h4]
        exact numbers_in a b (by unfold okS; omega) (by unfold okS; omega)
    · rw [if_neg h3]
      exact numbers_in a b (by unfold okS; omega) (by unfold okS; omega)

end Go.Proofs.Ytpflkcmjoiakfaa.Pure
