/- The reference's Decode, and the bytes of a number's sign. -/
import Derived.Test.YtpflkcmjoiakfaaPureLib2
set_option linter.unusedVariables false
namespace Go.Proofs.Ytpflkcmjoiakfaa.PAll
open Go.RowKit Go.Lib Go.Proofs.Ytpflkcmjoiakfaa.Spec Go.Proofs.YtpflkcmjoiakfaaW.PrintWords Go.Proofs.YtpflkcmjoiakfaaW.PrintMore

theorem ba_ext {a b : ByteArray} (h : a.data.toList = b.data.toList) : a = b := by
  cases a
  cases b
  congr 1
  exact Array.ext' h
theorem ba_list (a : ByteArray) : a = ⟨a.data.toList.toArray⟩ := ba_ext (by simp)
theorem ba_app (a : ByteArray) (l r : List UInt8) : (a ++ (⟨l.toArray⟩ : ByteArray)) ++ (⟨r.toArray⟩ : ByteArray) = a ++ (⟨(l ++ r).toArray⟩ : ByteArray) := by
  apply ba_ext
  simp [ByteArray.data_append]
theorem ba_nil (a : ByteArray) : a ++ (⟨([] : List UInt8).toArray⟩ : ByteArray) = a := by
  apply ba_ext
  simp [ByteArray.data_append]
theorem nil_ba (l : List UInt8) : (⟨#[]⟩ : ByteArray) ++ (⟨l.toArray⟩ : ByteArray) = ⟨l.toArray⟩ := by
  apply ba_ext
  simp [ByteArray.data_append]
theorem ba_size (l : List UInt8) : (⟨l.toArray⟩ : ByteArray).size = l.length := by simp [ByteArray.size]

theorem refdec_l0 : ∀ (m : Nat) (L : List UInt8) (acc : ByteArray) (k : Nat), L.length ≤ m → acc.size + 3 * L.length ≤ 1000000000 → 70 + m < k →
    flailref01_Decode.l0 k (nums L) acc = some (acc ++ (⟨(dec L).toArray⟩ : ByteArray))
  | m, L, acc, k, hm, hz, hk => by
    obtain ⟨k, rfl⟩ : ∃ j, k = j + 1 := ⟨k - 1, by omega⟩
    by_cases hL : L = []
    · subst hL
      rw [flailref01_Decode.l0, nums_length, if_neg (by simp), dec_nil, ba_nil]
    · have hpos : 0 < L.length := List.length_pos_iff.2 hL
      cases m with
      | zero => omega
      | succ m =>
        have hf := first_le L hL
        have h1 : flailref01_first.f k (nums L) = some (((firstP L).1 : Int), (firstP L).2) := at_rounds (fun j => flailref01_first.mono (nums L) j) (show 60 ≤ k by omega) (ref_first L hL (by omega))
        have hd : (nums L).drop ((firstP L).1 : Int).toNat = nums (L.drop (firstP L).1) := by rw [Int.toNat_natCast, nums_drop]
        have ht : strOfNums ((nums L).take ((firstP L).1 : Int).toNat) = ⟨(L.take (firstP L).1).toArray⟩ := by rw [Int.toNat_natCast, nums_take, strOf_nums]
        rw [flailref01_Decode.l0, nums_length, if_pos (by omega), h1]
        simp only [Option.bind_some]
        rw [hd, ht, ba_size (L.take (firstP L).1), List.length_take, dec_step L hL]
        cases hw : (firstP L).2 with
        | true =>
          rw [if_pos rfl, if_pos (by omega), if_pos (by omega), if_pos (by omega), if_pos rfl, ← ba_app]
          exact refdec_l0 m _ _ k (by rw [List.length_drop]; omega) (by rw [ByteArray.size_append, ba_size (L.take (firstP L).1), List.length_take, List.length_drop]; omega) (by omega)
        | false =>
          rw [if_neg (by decide), if_pos (by omega), if_pos (by omega), if_pos (by omega), if_neg (by decide), ← ba_app]
          exact refdec_l0 m _ _ k (by rw [List.length_drop]; omega) (by rw [ByteArray.size_append, List.length_drop]; show acc.size + 3 + _ ≤ _; omega) (by omega)

theorem refdec_at (L : List UInt8) (h : L.length ≤ 1000) : flailref01_Decode.f 2000 (nums L) = some ⟨(Spec.decode L).toArray⟩ := by
  have hj : ∀ M : List UInt8, M.length ≤ 1000 → flailref01_Decode.j0 2000 (nums M) = some ⟨(dec M).toArray⟩ := by
    intro M hM
    rw [flailref01_Decode.j0, refdec_l0 1000 M _ _ hM (by show 0 + _ ≤ _; omega) (by omega), nil_ba]
  unfold flailref01_Decode.f Spec.decode trim
  rw [nums_length]
  by_cases h3 : 3 ≤ L.length
  · match L, h3, h with
    | a :: b :: c :: t, _, h =>
      have r0 : rd (nums (a :: b :: c :: t)) 0 = (a.toNat : Int) := nums_rd (L := a :: b :: c :: t) (i := 0) (by simp)
      have r1 : rd (nums (a :: b :: c :: t)) 1 = (b.toNat : Int) := nums_rd (L := a :: b :: c :: t) (i := 1) (by simp)
      have r2 : rd (nums (a :: b :: c :: t)) 2 = (c.toNat : Int) := nums_rd (L := a :: b :: c :: t) (i := 2) (by simp)
      have hl : (a :: b :: c :: t).length = t.length + 3 := rfl
      rw [r0, r1, r2, if_pos (by omega), if_pos (by omega)]
      have hno : ¬ (a.toNat = 239 ∧ b.toNat = 187 ∧ c.toNat = 191) → ¬ (a :: b :: c :: t).take 3 = [239, 187, 191] := by
        intro hn e
        apply hn
        simp at e
        obtain ⟨rfl, rfl, rfl⟩ := e
        decide
      by_cases ha : a.toNat = 239
      · rw [if_pos (by omega), if_pos (by omega)]
        by_cases hb : b.toNat = 187
        · rw [if_pos (by omega), if_pos (by omega)]
          by_cases hc : c.toNat = 191
          · rw [if_pos (by omega), if_pos (by omega)]
            have q1 : a = 239 := UInt8.toNat_inj.1 ha
            have q2 : b = 187 := UInt8.toNat_inj.1 hb
            have q3 : c = 191 := UInt8.toNat_inj.1 hc
            subst q1 q2 q3
            rw [if_pos (show List.take 3 (239 :: 187 :: 191 :: t) = [239, 187, 191] from rfl)]
            exact hj t (by omega)
          · rw [if_neg (by omega), if_neg (hno (by omega))]
            exact hj _ h
        · rw [if_neg (by omega), if_neg (hno (by omega))]
          exact hj _ h
      · rw [if_neg (by omega), if_neg (hno (by omega))]
        exact hj _ h
  · rw [if_neg (by omega), if_neg]
    · exact hj _ h
    · intro e
      have := congrArg List.length e
      simp at this
      omega

theorem dec_of_nums (L : List UInt8) (h : L.length ≤ 1000) : utf_Decode.f (nums L) = some ⟨(Spec.decode L).toArray⟩ := by
  unfold utf_Decode.f
  rw [nums_length, if_pos (by omega), strOf_nums]

theorem awake_at : flaillaw01_awake.f = some true := by
  have h1 : utf_Decode.f [65, 255, 66] = some ⟨#[65, 239, 191, 189, 66]⟩ := dec_of_nums [65, 255, 66] (by decide)
  have h2 : utf_Decode.f [226, 130] = some ⟨#[239, 191, 189]⟩ := dec_of_nums [226, 130] (by decide)
  have h3 : utf_Decode.f [224, 128] = some ⟨#[239, 191, 189, 239, 191, 189]⟩ := dec_of_nums [224, 128] (by decide)
  have h4 : utf_Sign.f 65 = some ⟨#[65]⟩ := by rfl
  have h5 : utf_Right.f ⟨#[65]⟩ = some true := by rw [right_at]; rfl
  unfold flaillaw01_awake.f
  rw [h1, h2, h3, h4, h5]
  simp only [Option.bind_some, ByteArray.toList_eq]
  rfl

/-! The bytes of a number's sign. -/
def sg (v : Nat) : List Nat := if v < 128 then [v] else if v < 2048 then [192 + v / 64, 128 + v % 64] else if v < 65536 then [224 + v / 4096, 128 + v / 64 % 64, 128 + v % 64] else [240 + v / 262144, 128 + v / 4096 % 64, 128 + v / 64 % 64, 128 + v % 64]
def okS (n : Int) : Prop := 0 ≤ n ∧ n ≤ 1114111 ∧ (n < 55296 ∨ 57343 < n)
instance (n : Int) : Decidable (okS n) := by unfold okS; infer_instance
def signL (n : Int) : List UInt8 := if okS n then (sg n.toNat).map UInt8.ofNat else bad

theorem sign_at (n : Int) : utf_Sign.f n = some ⟨(signL n).toArray⟩ := by
  unfold utf_Sign.f signL
  by_cases h : n < 0 ∨ 1114111 < n
  · rw [if_pos h, if_neg (by unfold okS; omega)]
    rfl
  · rw [if_neg h]
    congr 1
    unfold Utf8.encode
    obtain ⟨v, rfl⟩ := Int.eq_ofNat_of_zero_le (show 0 ≤ n by omega)
    rw [valid_nat]
    by_cases hv : okS (v : Int)
    · have hd : decide (v < 55296 ∨ (57344 ≤ v ∧ v ≤ 1114111)) = true := decide_eq_true (by unfold okS at hv; omega)
      rw [hd, if_pos hv]
      simp only [if_true, Int.toNat_natCast]
      unfold sg
      by_cases h1 : v < 128
      · rw [if_pos h1, if_pos h1]
        rfl
      · rw [if_neg h1, if_neg h1]
        by_cases h2 : v < 2048
        · rw [if_pos h2, if_pos h2]
          rfl
        · rw [if_neg h2, if_neg h2]
          by_cases h3 : v < 65536
          · rw [if_pos h3, if_pos h3]
            rfl
          · rw [if_neg h3, if_neg h3]
            rfl
    · have hd : decide (v < 55296 ∨ (57344 ≤ v ∧ v ≤ 1114111)) = false := decide_eq_false (by unfold okS at hv; omega)
      rw [hd, if_neg hv]
      simp only [Bool.false_eq_true, if_false]
      rfl

theorem ofN {x : Nat} (h : x < 256) : (UInt8.ofNat x).toNat = x := by
  simp
  omega

theorem strOf_map (l : List Nat) : strOfNums (l.map (fun x : Nat => (x : Int))) = ⟨(l.map UInt8.ofNat).toArray⟩ := by
  unfold strOfNums
  simp [List.map_map, Function.comp_def]

theorem refsign_at (n : Int) : flailref01_Sign.f 5 n = some ⟨(signL n).toArray⟩ := by
  unfold signL
  by_cases h : okS n
  · rw [if_pos h]
    obtain ⟨v, rfl⟩ := Int.eq_ofNat_of_zero_le h.1
    unfold okS at h
    rw [Int.toNat_natCast]
    unfold sg
    by_cases h1 : v < 128
    · rw [if_pos h1, flailref01_Sign.f, if_neg (by omega), if_neg (by omega), if_neg (by omega), flailref01_Sign.j0, if_neg (by decide), if_pos (by omega), show (v : Int) % 256 = (v : Int) by omega]
      exact congrArg some (strOf_map [v])
    · rw [if_neg h1]
      by_cases h2 : v < 2048
      · rw [if_pos h2, sign_two 4 v (by omega) (by omega)]
        exact congrArg some (strOf_map [192 + v / 64, 128 + v % 64])
      · rw [if_neg h2]
        by_cases h3 : v < 65536
        · rw [if_pos h3, sign_three 4 v (by omega) (by omega) (by omega)]
          exact congrArg some (strOf_map [224 + v / 4096, 128 + v / 64 % 64, 128 + v % 64])
        · rw [if_neg h3, sign_four 4 v (by omega) (by omega)]
          exact congrArg some (strOf_map [240 + v / 262144, 128 + v / 4096 % 64, 128 + v / 64 % 64, 128 + v % 64])
  · rw [if_neg h]
    unfold okS at h
    have hj : flailref01_Sign.j0 5 n true = some (⟨bad.toArray⟩ : ByteArray) := by
      rw [flailref01_Sign.j0, if_pos rfl]
      rfl
    rw [flailref01_Sign.f]
    by_cases h1 : n < 0
    · rw [if_pos h1]
      exact hj
    · rw [if_neg h1]
      by_cases h2 : n > 1114111
      · rw [if_pos h2]
        exact hj
      · rw [if_neg h2, if_pos (by omega), decide_eq_true (by omega)]
        exact hj

theorem first_two {c a : UInt8} (h1 : 194 ≤ c.toNat) (h2 : c.toNat ≤ 223) (ha : 128 ≤ a.toNat ∧ a.toNat ≤ 191) : firstP [c, a] = (2, true) := by
  simp only [firstP]
  rw [if_neg (by omega), tail_2 ⟨h1, h2⟩]
  simp only [goP_one]
  rw [if_pos ha]
  rfl
theorem first_three {c a b : UInt8} (h1 : 224 ≤ c.toNat) (h2 : c.toNat ≤ 239) (ha : 128 ≤ a.toNat ∧ a.toNat ≤ 191) (hb : 128 ≤ b.toNat ∧ b.toNat ≤ 191) (h3 : c.toNat = 224 → 160 ≤ a.toNat) (h4 : c.toNat = 237 → a.toNat ≤ 159) : firstP [c, a, b] = (3, true) := by
  obtain ⟨lo, hi, ht, q1, q2, q3, q4⟩ := tail_3' ⟨h1, h2⟩
  simp only [firstP]
  rw [if_neg (by omega), ht]
  simp only [goP_one]
  rw [if_pos (show lo ≤ a.toNat ∧ a.toNat ≤ hi by omega), if_pos hb]
  rfl
theorem first_four {c a b d : UInt8} (h1 : 240 ≤ c.toNat) (h2 : c.toNat ≤ 244) (ha : 128 ≤ a.toNat ∧ a.toNat ≤ 191) (hb : 128 ≤ b.toNat ∧ b.toNat ≤ 191) (hd : 128 ≤ d.toNat ∧ d.toNat ≤ 191) (h3 : c.toNat = 240 → 144 ≤ a.toNat) (h4 : c.toNat = 244 → a.toNat ≤ 143) : firstP [c, a, b, d] = (4, true) := by
  obtain ⟨lo, hi, ht, q1, q2, q3, q4⟩ := tail_4' ⟨h1, h2⟩
  simp only [firstP]
  rw [if_neg (by omega), ht]
  simp only [goP_one]
  rw [if_pos (show lo ≤ a.toNat ∧ a.toNat ≤ hi by omega), if_pos hb, if_pos hd]
  rfl

theorem first_sign (n : Int) : firstP (signL n) = ((signL n).length, true) := by
  unfold signL
  by_cases h : okS n
  · rw [if_pos h]
    obtain ⟨v, rfl⟩ := Int.eq_ofNat_of_zero_le h.1
    unfold okS at h
    rw [Int.toNat_natCast]
    unfold sg
    by_cases h1 : v < 128
    · rw [if_pos h1]
      simp only [List.map_cons, List.map_nil, firstP]
      rw [if_pos (by rw [ofN (by omega)]; omega)]
      rfl
    · rw [if_neg h1]
      by_cases h2 : v < 2048
      · rw [if_pos h2]
        exact first_two (by rw [ofN (by omega)]; omega) (by rw [ofN (by omega)]; omega) (by rw [ofN (by omega)]; omega)
      · rw [if_neg h2]
        by_cases h3 : v < 65536
        · rw [if_pos h3]
          refine first_three ?_ ?_ ?_ ?_ ?_ ?_
          · rw [ofN (by omega)]; omega
          · rw [ofN (by omega)]; omega
          · rw [ofN (by omega)]; omega
          · rw [ofN (by omega)]; omega
          · rw [ofN (by omega), ofN (by omega)]; omega
          · rw [ofN (by omega), ofN (by omega)]; omega
        · rw [if_neg h3]
          refine first_four ?_ ?_ ?_ ?_ ?_ ?_ ?_
          · rw [ofN (by omega)]; omega
          · rw [ofN (by omega)]; omega
          · rw [ofN (by omega)]; omega
          · rw [ofN (by omega)]; omega
          · rw [ofN (by omega)]; omega
          · rw [ofN (by omega), ofN (by omega)]; omega
          · rw [ofN (by omega), ofN (by omega)]; omega
  · rw [if_neg h]
    decide
theorem sign_len (n : Int) : 1 ≤ (signL n).length ∧ (signL n).length ≤ 4 := by
  unfold signL sg
  repeat' split
  all_goals simp [bad]
theorem sign_ne (n : Int) : signL n ≠ [] := by
  intro e
  have := sign_len n
  rw [e] at this
  simp at this
theorem right_sign (n : Int) : right (signL n) = true := by
  rw [right_step _ (sign_ne n), first_sign, Bool.true_and, List.drop_length]
  rfl
theorem sign_mark (n : Int) (h : n ≠ 65279) : (signL n).take 3 ≠ [239, 187, 191] := by
  intro e
  have hl := sign_len n
  unfold signL at e
  by_cases ho : okS n
  · rw [if_pos ho] at e
    obtain ⟨v, rfl⟩ := Int.eq_ofNat_of_zero_le ho.1
    unfold okS at ho
    rw [Int.toNat_natCast] at e
    unfold sg at e
    by_cases h1 : v < 128
    · rw [if_pos h1] at e
      simp at e
    · rw [if_neg h1] at e
      by_cases h2 : v < 2048
      · rw [if_pos h2] at e
        simp at e
      · rw [if_neg h2] at e
        by_cases h3 : v < 65536
        · rw [if_pos h3] at e
          simp only [List.map_cons, List.map_nil, List.take_succ_cons, List.take_zero, List.cons.injEq] at e
          obtain ⟨e1, e2, e3, _⟩ := e
          have f1 := congrArg UInt8.toNat e1
          have f2 := congrArg UInt8.toNat e2
          have f3 := congrArg UInt8.toNat e3
          rw [ofN (by omega)] at f1 f2 f3
          have g1 : (239 : UInt8).toNat = 239 := rfl
          have g2 : (187 : UInt8).toNat = 187 := rfl
          have g3 : (191 : UInt8).toNat = 191 := rfl
          omega
        · rw [if_neg h3] at e
          simp only [List.map_cons, List.map_nil, List.take_succ_cons, List.take_zero, List.cons.injEq] at e
          have f1 := congrArg UInt8.toNat e.1
          rw [ofN (by omega)] at f1
          have g1 : (239 : UInt8).toNat = 239 := rfl
          omega
  · rw [if_neg ho] at e
    exact absurd e (by decide)
theorem sign_is_mark : signL 65279 = [239, 187, 191] := by decide

theorem bl_cons (x y : UInt8) (a b : List UInt8) : Op.bytesLess (x :: a) (y :: b) = (decide (x.toNat < y.toNat) || (decide (x.toNat = y.toNat) && Op.bytesLess a b)) := by
  simp only [Op.bytesLess]
  congr 1
  congr 1
  rw [Bool.eq_iff_iff, beq_iff_eq, decide_eq_true_iff]
  exact UInt8.toNat_inj.symm
theorem bl_nil (a : List UInt8) : Op.bytesLess a [] = false := by
  cases a <;> rfl
theorem bl_first (y : UInt8) (b : List UInt8) : Op.bytesLess [] (y :: b) = true := rfl
end Go.Proofs.Ytpflkcmjoiakfaa.PAll
