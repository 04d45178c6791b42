/- The first sign, as the program's and the reference's printed functions tell it. -/
import Derived.Test.YtpflkcmjoiakfaaPAllx6
import Derived.Test.YtpflkcmjoiakfaaPAllx10
import Derived.Test.YtpflkcmjoiakfaaSpec
set_option linter.unusedVariables false
namespace Go.Proofs.Ytpflkcmjoiakfaa.PAll
open Go.RowKit Go.Proofs.Ytpflkcmjoiakfaa.Spec Go.Proofs.YtpflkcmjoiakfaaW.PrintWords Go.Proofs.YtpflkcmjoiakfaaW.PrintMore

theorem bt_at {s : ByteArray} {i : Nat} (h : i < s.size) : bt s (i : Int) = ((s.data.toList[i]'(by simpa using h)).toNat : Int) := by
  unfold bt
  have h' : ((i : Int).toNat) < s.size := by simpa using h
  rw [dif_pos h']
  simp [ByteArray.getElem_eq_getElem_data]

theorem tail_256 : ∀ c : Nat, c < 256 → utf_tail.f 10 (c : Int) = some (((tailP c).1 : Int), ((tailP c).2.1 : Int), ((tailP c).2.2 : Int)) := by
  intro c hc
  have h : ∀ c : Fin 256, utf_tail.f 10 ((c.val : Nat) : Int) = some (((tailP c.val).1 : Int), ((tailP c.val).2.1 : Int), ((tailP c.val).2.2 : Int)) := by decide +kernel
  exact h ⟨c, hc⟩

theorem has_at (lo hi x : Nat) : utf_span_has.f (lo : Int) (hi : Int) (x : Int) = some (decide (lo ≤ x ∧ x ≤ hi)) := by
  unfold utf_span_has.f
  by_cases h : lo ≤ x
  · rw [if_pos (by omega)]
    by_cases h2 : x ≤ hi
    · rw [decide_eq_true (by omega), decide_eq_true ⟨h, h2⟩]
    · rw [decide_eq_false (by omega), decide_eq_false (by omega)]
  · rw [if_neg (by omega), decide_eq_false (by omega)]

theorem first_l0 (s : ByteArray) (m : Nat) : ∀ (k i lo hi n : Nat), 1 ≤ i → i ≤ s.size → n = i + m → m < k → n ≤ 4 →
    utf_first.l0 k s (i : Int) (n : Int) (lo : Int) (hi : Int) = some (((i + (goP m lo hi (s.data.toList.drop i)).1 : Nat) : Int), (goP m lo hi (s.data.toList.drop i)).2 && decide (1 < n)) := by
  have hsl : s.data.toList.length = s.size := by simp
  induction m with
  | zero =>
    intro k i lo hi n h1 h2 hn hk h4
    obtain ⟨k, rfl⟩ : ∃ m, k = m + 1 := ⟨k - 1, by omega⟩
    simp only [utf_first.l0, goP]
    rw [if_neg (by omega)]
    simp
    congr 1
    by_cases hh : 1 < n
    · simp [hh]; omega
    · simp [hh]; omega
  | succ m ih =>
    intro k i lo hi n h1 h2 hn hk h4
    obtain ⟨k, rfl⟩ : ∃ m, k = m + 1 := ⟨k - 1, by omega⟩
    simp only [utf_first.l0]
    rw [if_pos (by omega)]
    by_cases he : i = s.size
    · rw [if_pos (by omega)]
      have hd : s.data.toList.drop i = [] := List.drop_eq_nil_of_le (by omega)
      rw [hd]
      simp [goP]
    · have hlt : i < s.size := by omega
      have hlt' : i < s.data.toList.length := by omega
      rw [if_neg (by omega), if_pos (by omega), if_pos (by omega), bt_at hlt, has_at]
      have hd : s.data.toList.drop i = s.data.toList[i] :: s.data.toList.drop (i + 1) := List.drop_eq_getElem_cons hlt'
      rw [hd]
      simp only [Option.bind_some, goP]
      by_cases hc : lo ≤ (s.data.toList[i]).toNat ∧ (s.data.toList[i]).toNat ≤ hi
      · rw [if_pos hc, if_pos (by simpa using hc)]
        have hw : wrap64 ((i : Int) + 1) = ((i + 1 : Nat) : Int) := by
          unfold wrap64
          omega
        rw [hw]
        have := ih k (i + 1) 128 191 n (by omega) (by omega) (by omega) (by omega) h4
        rw [show ((128 : Nat) : Int) = 128 from rfl, show ((191 : Nat) : Int) = 191 from rfl] at this
        rw [this]
        simp only [Nat.add_assoc, Nat.add_comm 1]
      · rw [if_neg hc, if_neg (by simpa using hc)]
        simp

theorem first_at (s : ByteArray) (h : 0 < s.size) : utf_first.f 10 s = some (((firstP s.data.toList).1 : Int), (firstP s.data.toList).2) := by
  have hsl : s.data.toList.length = s.size := by simp
  have h0 := bt_at (s := s) (i := 0) h
  obtain ⟨c, t, hct⟩ : ∃ c t, s.data.toList = c :: t := by
    cases hs : s.data.toList with
    | nil => rw [hs] at hsl; simp at hsl; omega
    | cons c t => exact ⟨c, t, rfl⟩
  have hc0 : bt s 0 = (c.toNat : Int) := by
    rw [show (0 : Int) = ((0 : Nat) : Int) from rfl, h0]
    simp [hct]
  have hcb : c.toNat < 256 := c.toNat_lt
  unfold utf_first.f
  rw [if_pos (by omega), hc0, hct]
  by_cases hlt : c.toNat < 128
  · rw [if_pos (by omega)]
    simp only [firstP, if_pos hlt]
    rfl
  · rw [if_neg (by omega), tail_256 _ hcb]
    simp only [Option.bind_some, firstP, if_neg hlt]
    have htn := tail_n c.toNat
    have := first_l0 s ((tailP c.toNat).2.2 - 1) 10 1 (tailP c.toNat).1 (tailP c.toNat).2.1 (tailP c.toNat).2.2 (by omega) (by omega) (by omega) (by omega) htn.2
    rw [hct] at this
    rw [show ((1 : Nat) : Int) = 1 from rfl] at this
    rw [this]
    simp [Nat.add_comm]
/-- Bytes by their numbers. -/
def nums (L : List UInt8) : List Int := L.map fun c => (c.toNat : Int)
theorem nums_length (L : List UInt8) : (nums L).length = L.length := by simp [nums]
theorem nums_drop (L : List UInt8) (n : Nat) : (nums L).drop n = nums (L.drop n) := by simp [nums, List.map_drop]
theorem nums_take (L : List UInt8) (n : Nat) : (nums L).take n = nums (L.take n) := by simp [nums, List.map_take]
theorem nums_rd {L : List UInt8} {i : Nat} (h : i < L.length) : rd (nums L) (i : Int) = ((L[i]).toNat : Int) := by simp [rd, nums, h]
theorem strOf_nums (L : List UInt8) : strOfNums (nums L) = ⟨L.toArray⟩ := by
  unfold strOfNums nums
  congr 1
  apply Array.ext'
  simp
  induction L with
  | nil => rfl
  | cons c t ih =>
    simp
    exact ih
theorem nums_of {l : List Int} (h : ∀ x ∈ l, (Lit.int .u8 x).wf = true) : nums (strOfNums l).data.toList = l := by
  unfold strOfNums nums
  simp
  induction l with
  | nil => rfl
  | cons x t ih =>
    have hx := h x (by simp)
    simp [Lit.wf, IntKind.min, IntKind.max, IntKind.signed, IntKind.bits] at hx
    simp
    refine ⟨?_, ?_⟩
    · omega
    · exact ih (fun y hy => h y (by simp [hy]))
theorem w64 {x : Int} (h0 : -9223372036854775808 ≤ x) (h1 : x ≤ 9223372036854775807) : wrap64 x = x := by
  unfold wrap64
  omega
theorem byte_lt (c : UInt8) : c.toNat < 256 := c.toNat_lt

/-! The reference's least: step by step. -/
def fin (f t low high : Int) : Int × Int := if (mx f low ≥ 55296 ∧ mn t high ≤ 57343) ∨ mx f low > mn t high then (-1, -1) else (mx f low, mn t high)

theorem l1_stop (k : Nat) (many low high f t i : Int) (h : many ≤ i) : flailref01_least.l1 (k + 1) many low high f t i = some (fin f t low high) := by
  rw [flailref01_least.l1, if_neg (by omega)]
  unfold fin
  by_cases h1 : mx f low ≥ 55296
  · rw [if_pos h1]
    by_cases h2 : mn t high ≤ 57343
    · rw [if_pos h2, if_pos (Or.inl ⟨h1, h2⟩)]
    · rw [if_neg h2]
      by_cases h3 : mx f low > mn t high
      · rw [if_pos h3, if_pos (Or.inr h3)]
      · rw [if_neg h3, if_neg (by rintro (⟨_, h⟩ | h) <;> contradiction)]
  · rw [if_neg h1]
    by_cases h3 : mx f low > mn t high
    · rw [if_pos h3, if_pos (Or.inr h3)]
    · rw [if_neg h3, if_neg (by rintro (⟨h, _⟩ | h) <;> contradiction)]
theorem l1_step (k : Nat) (many low high f t i : Int) (h : i < many) (hf : 0 ≤ f ∧ f ≤ 100000000) (ht : 0 ≤ t ∧ t ≤ 100000000) (hi : 0 ≤ i ∧ i ≤ 100) : flailref01_least.l1 (k + 1) many low high f t i = flailref01_least.l1 k many low high (64 * f) (64 * t + 63) (i + 1) := by
  rw [flailref01_least.l1, if_pos h, w64 (x := 64 * f) (by omega) (by omega), w64 (x := 64 * t) (by omega) (by omega), w64 (x := 64 * t + 63) (by omega) (by omega), w64 (x := i + 1) (by omega) (by omega)]
theorem l0_stop (k : Nat) (L : List UInt8) (many low high x : Int) (hL : L.length ≤ 100) : flailref01_least.l0 (k + 1) (nums L) many low high x (L.length : Int) = flailref01_least.l1 k many low high x x (L.length : Int) := by
  rw [flailref01_least.l0, nums_length, if_neg (by omega)]
theorem l0_step (k : Nat) (L : List UInt8) (many low high x : Int) (i : Nat) (hi : i < L.length) (hL : L.length ≤ 100) (hx : 0 ≤ x ∧ x ≤ 100000000) (h1 : 128 ≤ (L[i]).toNat) (h2 : (L[i]).toNat < 192) :
    flailref01_least.l0 (k + 1) (nums L) many low high x (i : Int) = flailref01_least.l0 k (nums L) many low high (64 * x + (L[i]).toNat - 128) ((i + 1 : Nat) : Int) := by
  rw [flailref01_least.l0, nums_length, nums_rd hi, if_pos (by omega), if_pos (by omega), if_neg (by omega), if_neg (by omega), w64 (x := 64 * x) (by omega) (by omega), w64 (x := ((L[i]).toNat : Int)) (by omega) (by omega), w64 (x := 64 * x + ((L[i]).toNat : Int)) (by omega) (by omega), w64 (x := 64 * x + ((L[i]).toNat : Int) - 128) (by omega) (by omega), w64 (x := (i : Int) + 1) (by omega) (by omega)]
  rfl
theorem l0_bad (k : Nat) (L : List UInt8) (many low high x : Int) (i : Nat) (hi : i < L.length) (h : (L[i]).toNat < 128 ∨ 192 ≤ (L[i]).toNat) :
    flailref01_least.l0 (k + 1) (nums L) many low high x (i : Int) = some (-1, -1) := by
  rw [flailref01_least.l0, nums_length, nums_rd hi, if_pos (by omega), if_pos (by omega)]
  by_cases h1 : (L[i]).toNat < 128
  · rw [if_pos (by omega)]
  · rw [if_neg (by omega), if_pos (by omega)]
theorem j2_in (k : Nat) (L : List UInt8) (many low high x : Int) (h : (L.length : Int) ≤ many) : flailref01_least.j2 (k + 1) (nums L) many low high x = flailref01_least.l0 k (nums L) many low high x 1 := by
  rw [flailref01_least.j2, nums_length, if_neg (by omega)]

theorem least_none (k : Nat) (c : UInt8) (t : List UInt8) (h : c.toNat < 192 ∨ 248 ≤ c.toNat) : flailref01_least.f (k + 2) (nums (c :: t)) = some (-1, -1) := by
  have hb := byte_lt c
  have h0 : rd (nums (c :: t)) 0 = (c.toNat : Int) := nums_rd (L := c :: t) (i := 0) (by simp)
  have hl : (nums (c :: t)).length = t.length + 1 := by rw [nums_length]; rfl
  rw [flailref01_least.f, if_pos (by omega), h0, w64 (by omega) (by omega)]
  by_cases h1 : c.toNat < 192
  · rw [if_neg (by omega), flailref01_least.j0, if_neg (by decide), if_neg (by omega), flailref01_least.j1, if_neg (by decide), if_neg (by omega)]
  · rw [if_pos (by omega), flailref01_least.j0, if_neg (by simp; omega), if_pos (by omega), flailref01_least.j1, if_neg (by simp; omega), if_pos (by omega), if_neg (by omega)]
theorem least_two (k : Nat) (c : UInt8) (t : List UInt8) (h1 : 192 ≤ c.toNat) (h2 : c.toNat < 224) : flailref01_least.f (k + 1) (nums (c :: t)) = flailref01_least.j2 k (nums (c :: t)) 2 128 2047 ((c.toNat : Int) - 192) := by
  have hb := byte_lt c
  have h0 : rd (nums (c :: t)) 0 = (c.toNat : Int) := nums_rd (L := c :: t) (i := 0) (by simp)
  have hl : (nums (c :: t)).length = t.length + 1 := by rw [nums_length]; rfl
  rw [flailref01_least.f, if_pos (by omega), h0, w64 (by omega) (by omega), if_pos (by omega), flailref01_least.j0, if_pos (by simp; omega), w64 (by omega) (by omega)]
theorem least_three (k : Nat) (c : UInt8) (t : List UInt8) (h1 : 224 ≤ c.toNat) (h2 : c.toNat < 240) : flailref01_least.f (k + 2) (nums (c :: t)) = flailref01_least.j2 k (nums (c :: t)) 3 2048 65535 ((c.toNat : Int) - 224) := by
  have hb := byte_lt c
  have h0 : rd (nums (c :: t)) 0 = (c.toNat : Int) := nums_rd (L := c :: t) (i := 0) (by simp)
  have hl : (nums (c :: t)).length = t.length + 1 := by rw [nums_length]; rfl
  rw [flailref01_least.f, if_pos (by omega), h0, w64 (by omega) (by omega), if_pos (by omega), flailref01_least.j0, if_neg (by simp; omega), if_pos (by omega), flailref01_least.j1, if_pos (by simp; omega), w64 (by omega) (by omega)]
theorem least_four (k : Nat) (c : UInt8) (t : List UInt8) (h1 : 240 ≤ c.toNat) (h2 : c.toNat < 248) : flailref01_least.f (k + 2) (nums (c :: t)) = flailref01_least.j2 k (nums (c :: t)) 4 65536 1114111 ((c.toNat : Int) - 240) := by
  have hb := byte_lt c
  have h0 : rd (nums (c :: t)) 0 = (c.toNat : Int) := nums_rd (L := c :: t) (i := 0) (by simp)
  have hl : (nums (c :: t)).length = t.length + 1 := by rw [nums_length]; rfl
  rw [flailref01_least.f, if_pos (by omega), h0, w64 (by omega) (by omega), if_pos (by omega), flailref01_least.j0, if_neg (by simp; omega), if_pos (by omega), flailref01_least.j1, if_neg (by simp; omega), if_pos (by omega), if_pos (by omega), w64 (by omega) (by omega)]

/-- Is a byte one that goes on? -/
def cont (c : UInt8) : Prop := 128 ≤ c.toNat ∧ c.toNat < 192

/-! What the least is, of so many bytes (many: 2 to 4). -/
theorem run1 (k : Nat) (c : UInt8) (low high x : Int) (hx : 0 ≤ x ∧ x ≤ 31) : flailref01_least.j2 (k + 4) (nums [c]) 2 low high x = some (fin (64 * x) (64 * x + 63) low high) := by
  rw [j2_in _ _ _ _ _ _ (by simp)]
  have := l0_stop (k + 2) [c] 2 low high x (by simp)
  simp only [List.length_cons, List.length_nil, Nat.zero_add] at this
  rw [show ((1 : Nat) : Int) = 1 from rfl] at this
  rw [this, l1_step _ _ _ _ _ _ _ (by omega) (by omega) (by omega) (by omega), l1_stop _ _ _ _ _ _ _ (by omega)]
theorem run1_3 (k : Nat) (c : UInt8) (low high x : Int) (hx : 0 ≤ x ∧ x ≤ 31) : flailref01_least.j2 (k + 5) (nums [c]) 3 low high x = some (fin (64 * (64 * x)) (64 * (64 * x + 63) + 63) low high) := by
  rw [j2_in _ _ _ _ _ _ (by simp)]
  have := l0_stop (k + 3) [c] 3 low high x (by simp)
  simp only [List.length_cons, List.length_nil, Nat.zero_add] at this
  rw [show ((1 : Nat) : Int) = 1 from rfl] at this
  rw [this, l1_step _ _ _ _ _ _ _ (by omega) (by omega) (by omega) (by omega), l1_step _ _ _ _ _ _ _ (by omega) (by omega) (by omega) (by omega), l1_stop _ _ _ _ _ _ _ (by omega)]
theorem run1_4 (k : Nat) (c : UInt8) (low high x : Int) (hx : 0 ≤ x ∧ x ≤ 31) : flailref01_least.j2 (k + 6) (nums [c]) 4 low high x = some (fin (64 * (64 * (64 * x))) (64 * (64 * (64 * x + 63) + 63) + 63) low high) := by
  rw [j2_in _ _ _ _ _ _ (by simp)]
  have := l0_stop (k + 4) [c] 4 low high x (by simp)
  simp only [List.length_cons, List.length_nil, Nat.zero_add] at this
  rw [show ((1 : Nat) : Int) = 1 from rfl] at this
  rw [this, l1_step _ _ _ _ _ _ _ (by omega) (by omega) (by omega) (by omega), l1_step _ _ _ _ _ _ _ (by omega) (by omega) (by omega) (by omega), l1_step _ _ _ _ _ _ _ (by omega) (by omega) (by omega) (by omega), l1_stop _ _ _ _ _ _ _ (by omega)]
theorem run_bad (k : Nat) (c b : UInt8) (t : List UInt8) (many low high x : Int) (hm : ((c :: b :: t).length : Int) ≤ many) (h : ¬ cont b) : flailref01_least.j2 (k + 2) (nums (c :: b :: t)) many low high x = some (-1, -1) := by
  rw [j2_in _ _ _ _ _ _ hm]
  exact l0_bad k (c :: b :: t) many low high x 1 (by simp) (by unfold cont at h; simp; omega)
theorem run_first (k : Nat) (c b : UInt8) (t : List UInt8) (many low high x : Int) (hm : ((c :: b :: t).length : Int) ≤ many) (hl : t.length ≤ 90) (hx : 0 ≤ x ∧ x ≤ 31) (h : cont b) : flailref01_least.j2 (k + 2) (nums (c :: b :: t)) many low high x = flailref01_least.l0 k (nums (c :: b :: t)) many low high (64 * x + b.toNat - 128) 2 := by
  rw [j2_in _ _ _ _ _ _ hm]
  exact l0_step k (c :: b :: t) many low high x 1 (by simp) (by simp; omega) (by omega) h.1 h.2
theorem run2_2 (k : Nat) (c b : UInt8) (low high x : Int) (hx : 0 ≤ x ∧ x ≤ 31) (h : cont b) : flailref01_least.j2 (k + 4) (nums [c, b]) 2 low high x = some (fin (64 * x + b.toNat - 128) (64 * x + b.toNat - 128) low high) := by
  rw [run_first (k + 2) c b [] 2 low high x (by simp) (by simp) hx h]
  have := l0_stop (k + 1) [c, b] 2 low high (64 * x + b.toNat - 128) (by simp)
  simp only [List.length_cons, List.length_nil, Nat.zero_add] at this
  rw [show ((1 + 1 : Nat) : Int) = 2 from rfl] at this
  rw [this, l1_stop _ _ _ _ _ _ _ (by omega)]
theorem run2_3 (k : Nat) (c b : UInt8) (low high x : Int) (hx : 0 ≤ x ∧ x ≤ 31) (h : cont b) : flailref01_least.j2 (k + 5) (nums [c, b]) 3 low high x = some (fin (64 * (64 * x + b.toNat - 128)) (64 * (64 * x + b.toNat - 128) + 63) low high) := by
  have hb := h
  unfold cont at hb
  rw [run_first (k + 3) c b [] 3 low high x (by simp) (by simp) hx h]
  have := l0_stop (k + 2) [c, b] 3 low high (64 * x + b.toNat - 128) (by simp)
  simp only [List.length_cons, List.length_nil, Nat.zero_add] at this
  rw [show ((1 + 1 : Nat) : Int) = 2 from rfl] at this
  rw [this, l1_step _ _ _ _ _ _ _ (by omega) (by omega) (by omega) (by omega), l1_stop _ _ _ _ _ _ _ (by omega)]
theorem run2_4 (k : Nat) (c b : UInt8) (low high x : Int) (hx : 0 ≤ x ∧ x ≤ 31) (h : cont b) : flailref01_least.j2 (k + 6) (nums [c, b]) 4 low high x = some (fin (64 * (64 * (64 * x + b.toNat - 128))) (64 * (64 * (64 * x + b.toNat - 128) + 63) + 63) low high) := by
  have hb := h
  unfold cont at hb
  rw [run_first (k + 4) c b [] 4 low high x (by simp) (by simp) hx h]
  have := l0_stop (k + 3) [c, b] 4 low high (64 * x + b.toNat - 128) (by simp)
  simp only [List.length_cons, List.length_nil, Nat.zero_add] at this
  rw [show ((1 + 1 : Nat) : Int) = 2 from rfl] at this
  rw [this, l1_step _ _ _ _ _ _ _ (by omega) (by omega) (by omega) (by omega), l1_step _ _ _ _ _ _ _ (by omega) (by omega) (by omega) (by omega), l1_stop _ _ _ _ _ _ _ (by omega)]
theorem run_bad2 (k : Nat) (c b d : UInt8) (t : List UInt8) (many low high x : Int) (hm : ((c :: b :: d :: t).length : Int) ≤ many) (hl : t.length ≤ 80) (hx : 0 ≤ x ∧ x ≤ 31) (h : cont b) (hd : ¬ cont d) : flailref01_least.j2 (k + 3) (nums (c :: b :: d :: t)) many low high x = some (-1, -1) := by
  rw [run_first (k + 1) c b (d :: t) many low high x hm (by simp; omega) hx h]
  exact l0_bad k (c :: b :: d :: t) many low high _ 2 (by simp) (by unfold cont at hd; simp; omega)
theorem run_second (k : Nat) (c b d : UInt8) (t : List UInt8) (many low high x : Int) (hm : ((c :: b :: d :: t).length : Int) ≤ many) (hl : t.length ≤ 80) (hx : 0 ≤ x ∧ x ≤ 31) (h : cont b) (hd : cont d) : flailref01_least.j2 (k + 3) (nums (c :: b :: d :: t)) many low high x = flailref01_least.l0 k (nums (c :: b :: d :: t)) many low high (64 * (64 * x + b.toNat - 128) + d.toNat - 128) 3 := by
  have hb := h
  unfold cont at hb
  rw [run_first (k + 1) c b (d :: t) many low high x hm (by simp; omega) hx h]
  exact l0_step k (c :: b :: d :: t) many low high _ 2 (by simp) (by simp; omega) (by omega) hd.1 hd.2
theorem run3_3 (k : Nat) (c b d : UInt8) (low high x : Int) (hx : 0 ≤ x ∧ x ≤ 31) (h : cont b) (hd : cont d) : flailref01_least.j2 (k + 5) (nums [c, b, d]) 3 low high x = some (fin (64 * (64 * x + b.toNat - 128) + d.toNat - 128) (64 * (64 * x + b.toNat - 128) + d.toNat - 128) low high) := by
  rw [run_second (k + 2) c b d [] 3 low high x (by simp) (by simp) hx h hd]
  have := l0_stop (k + 1) [c, b, d] 3 low high (64 * (64 * x + b.toNat - 128) + d.toNat - 128) (by simp)
  simp only [List.length_cons, List.length_nil, Nat.zero_add] at this
  rw [show ((1 + 1 + 1 : Nat) : Int) = 3 from rfl] at this
  rw [this, l1_stop _ _ _ _ _ _ _ (by omega)]
theorem run3_4 (k : Nat) (c b d : UInt8) (low high x : Int) (hx : 0 ≤ x ∧ x ≤ 31) (h : cont b) (hd : cont d) : flailref01_least.j2 (k + 6) (nums [c, b, d]) 4 low high x = some (fin (64 * (64 * (64 * x + b.toNat - 128) + d.toNat - 128)) (64 * (64 * (64 * x + b.toNat - 128) + d.toNat - 128) + 63) low high) := by
  have hb := h
  unfold cont at hb
  have hb2 := hd
  unfold cont at hb2
  rw [run_second (k + 3) c b d [] 4 low high x (by simp) (by simp) hx h hd]
  have := l0_stop (k + 2) [c, b, d] 4 low high (64 * (64 * x + b.toNat - 128) + d.toNat - 128) (by simp)
  simp only [List.length_cons, List.length_nil, Nat.zero_add] at this
  rw [show ((1 + 1 + 1 : Nat) : Int) = 3 from rfl] at this
  rw [this, l1_step _ _ _ _ _ _ _ (by omega) (by omega) (by omega) (by omega), l1_stop _ _ _ _ _ _ _ (by omega)]
theorem run_bad3 (k : Nat) (c b d e : UInt8) (low high x : Int) (hx : 0 ≤ x ∧ x ≤ 31) (h : cont b) (hd : cont d) (he : ¬ cont e) : flailref01_least.j2 (k + 4) (nums [c, b, d, e]) 4 low high x = some (-1, -1) := by
  rw [run_second (k + 1) c b d [e] 4 low high x (by simp) (by simp) hx h hd]
  exact l0_bad k [c, b, d, e] 4 low high _ 3 (by simp) (by unfold cont at he; simp; omega)
theorem run4_4 (k : Nat) (c b d e : UInt8) (low high x : Int) (hx : 0 ≤ x ∧ x ≤ 31) (h : cont b) (hd : cont d) (he : cont e) : flailref01_least.j2 (k + 6) (nums [c, b, d, e]) 4 low high x = some (fin (64 * (64 * (64 * x + b.toNat - 128) + d.toNat - 128) + e.toNat - 128) (64 * (64 * (64 * x + b.toNat - 128) + d.toNat - 128) + e.toNat - 128) low high) := by
  have hb := h
  unfold cont at hb
  have hb2 := hd
  unfold cont at hb2
  rw [run_second (k + 3) c b d [e] 4 low high x (by simp) (by simp) hx h hd]
  have h3 := l0_step (k + 2) [c, b, d, e] 4 low high (64 * (64 * x + b.toNat - 128) + d.toNat - 128) 3 (by simp) (by simp) (by omega) he.1 he.2
  have h4 := l0_stop (k + 1) [c, b, d, e] 4 low high (64 * (64 * (64 * x + b.toNat - 128) + d.toNat - 128) + e.toNat - 128) (by simp)
  refine (show _ = _ from h3).trans ((show _ = _ from h4).trans ?_)
  exact l1_stop _ _ _ _ _ _ _ (by simp)
/-! The reference's sign of a number. -/
theorem dv {x : Int} (h : 0 ≤ x) (n : Int) : Int.tdiv x n = x / n := Int.tdiv_eq_ediv_of_nonneg h
theorem md {x : Int} (h : 0 ≤ x) (n : Int) : Int.tmod x n = x % n := Int.tmod_eq_emod_of_nonneg h
theorem sign_two (k : Nat) (v : Int) (h1 : 128 ≤ v) (h2 : v < 2048) : flailref01_Sign.f (k + 1) v = some (strOfNums [192 + v / 64, 128 + v % 64]) := by
  rw [flailref01_Sign.f, if_neg (by omega), if_neg (by omega), if_neg (by omega), flailref01_Sign.j0, if_neg (by decide), if_neg (by omega), if_pos (by omega), dv (by omega), md (by omega), w64 (x := v / 64) (by omega) (by omega), w64 (x := 192 + v / 64) (by omega) (by omega), w64 (x := 128 + v % 64) (by omega) (by omega), show (192 + v / 64) % 256 = 192 + v / 64 by omega, show (128 + v % 64) % 256 = 128 + v % 64 by omega]
theorem sign_three (k : Nat) (v : Int) (h1 : 2048 ≤ v) (h2 : v < 65536) (h3 : v < 55296 ∨ 57343 < v) : flailref01_Sign.f (k + 1) v = some (strOfNums [224 + v / 4096, 128 + v / 64 % 64, 128 + v % 64]) := by
  have hj : flailref01_Sign.j0 (k + 1) v false = some (strOfNums [224 + v / 4096, 128 + v / 64 % 64, 128 + v % 64]) := by
    rw [flailref01_Sign.j0, if_neg (by decide), if_neg (by omega), if_neg (by omega), if_pos (by omega), dv (by omega), dv (by omega), md (x := v) (by omega), w64 (x := v / 4096) (by omega) (by omega), w64 (x := v / 64) (by omega) (by omega), md (by omega), w64 (x := 224 + v / 4096) (by omega) (by omega), w64 (x := 128 + v / 64 % 64) (by omega) (by omega), w64 (x := 128 + v % 64) (by omega) (by omega), show (224 + v / 4096) % 256 = 224 + v / 4096 by omega, show (128 + v / 64 % 64) % 256 = 128 + v / 64 % 64 by omega, show (128 + v % 64) % 256 = 128 + v % 64 by omega]
  rw [flailref01_Sign.f, if_neg (by omega), if_neg (by omega)]
  by_cases h : v ≥ 55296
  · rw [if_pos h, decide_eq_false (by omega)]
    exact hj
  · rw [if_neg h]
    exact hj
theorem sign_four (k : Nat) (v : Int) (h1 : 65536 ≤ v) (h2 : v ≤ 1114111) : flailref01_Sign.f (k + 1) v = some (strOfNums [240 + v / 262144, 128 + v / 4096 % 64, 128 + v / 64 % 64, 128 + v % 64]) := by
  rw [flailref01_Sign.f, if_neg (by omega), if_neg (by omega), if_pos (by omega), decide_eq_false (by omega)]
  rw [flailref01_Sign.j0, if_neg (by decide), if_neg (by omega), if_neg (by omega), if_neg (by omega), dv (x := v) (by omega) 262144, dv (x := v) (by omega) 4096, dv (x := v) (by omega) 64, md (x := v) (by omega), w64 (x := v / 262144) (by omega) (by omega), w64 (x := v / 4096) (by omega) (by omega), w64 (x := v / 64) (by omega) (by omega), md (x := v / 4096) (by omega), md (x := v / 64) (by omega), w64 (x := 240 + v / 262144) (by omega) (by omega), w64 (x := 128 + v / 4096 % 64) (by omega) (by omega), w64 (x := 128 + v / 64 % 64) (by omega) (by omega), w64 (x := 128 + v % 64) (by omega) (by omega), show (240 + v / 262144) % 256 = 240 + v / 262144 by omega, show (128 + v / 4096 % 64) % 256 = 128 + v / 4096 % 64 by omega, show (128 + v / 64 % 64) % 256 = 128 + v / 64 % 64 by omega, show (128 + v % 64) % 256 = 128 + v % 64 by omega]
/-! The reference's first: a round. -/
theorem st_end (k : Nat) (L : List UInt8) (n i : Nat) (h : 4 < i ∨ L.length < i) : flailref01_first.l0 (k + 2) (nums L) (n : Int) (i : Int) = some (mx (n : Int) 1, false) := by
  rw [flailref01_first.l0]
  by_cases h1 : i ≤ 4
  · rw [if_pos (by omega), flailref01_first.j1, nums_length, if_neg (by simp; omega)]
  · rw [if_neg (by omega), flailref01_first.j1, if_neg (by decide)]
theorem st_in (k : Nat) (L : List UInt8) (n i : Nat) (h : i ≤ 4) (hl : i ≤ L.length) {f t : Int} (hr : flailref01_least.f k (nums (L.take i)) = some (f, t)) :
    flailref01_first.l0 (k + 2) (nums L) (n : Int) (i : Int) = (if f < 0 then some (mx (n : Int) 1, false) else if f = t then ((flailref01_Sign.f k f).bind fun s => if (strOfNums (nums (L.take i))).toList = s.toList then some ((i : Int), true) else flailref01_first.l0 k (nums L) (i : Int) (wrap64 ((i : Int) + 1))) else flailref01_first.l0 k (nums L) (i : Int) (wrap64 ((i : Int) + 1))) := by
  rw [flailref01_first.l0, if_pos (by omega), flailref01_first.j1, nums_length, if_pos (by simp; omega), if_pos (by omega), if_pos (by omega), Int.toNat_natCast, nums_take, hr]
  rfl
theorem st_bad (k : Nat) (L : List UInt8) (n i : Nat) (h : i ≤ 4) (hl : i ≤ L.length) (hr : flailref01_least.f k (nums (L.take i)) = some (-1, -1)) : flailref01_first.l0 (k + 2) (nums L) (n : Int) (i : Int) = some (mx (n : Int) 1, false) := by
  rw [st_in k L n i h hl hr, if_pos (by decide)]
theorem st_go (k : Nat) (L : List UInt8) (n i : Nat) (h : i ≤ 4) (hl : i ≤ L.length) {f t : Int} (hr : flailref01_least.f k (nums (L.take i)) = some (f, t)) (hf : 0 ≤ f) (hne : f ≠ t) : flailref01_first.l0 (k + 2) (nums L) (n : Int) (i : Int) = flailref01_first.l0 k (nums L) (i : Int) ((i + 1 : Nat) : Int) := by
  rw [st_in k L n i h hl hr, if_neg (by omega), if_neg hne, w64 (by omega) (by omega)]
  rfl
theorem st_hit (k : Nat) (L : List UInt8) (n i : Nat) (h : i ≤ 4) (hl : i ≤ L.length) {f : Int} (hr : flailref01_least.f k (nums (L.take i)) = some (f, f)) (hf : 0 ≤ f) (hs : flailref01_Sign.f k f = some (strOfNums (nums (L.take i)))) : flailref01_first.l0 (k + 2) (nums L) (n : Int) (i : Int) = some ((i : Int), true) := by
  rw [st_in k L n i h hl hr, if_neg (by omega), if_pos rfl, hs]
  simp only [Option.bind_some, if_true]
theorem mx_l {a b : Int} (h : b ≤ a) : mx a b = a := by
  unfold mx
  rw [if_neg (by omega)]
theorem mx_r {a b : Int} (h : a ≤ b) : mx a b = b := by
  unfold mx
  by_cases h1 : a < b
  · rw [if_pos h1]
  · rw [if_neg h1]
    omega
theorem mn_l {a b : Int} (h : a ≤ b) : mn a b = a := by
  unfold mn
  rw [if_neg (by omega)]
theorem mn_r {a b : Int} (h : b ≤ a) : mn a b = b := by
  unfold mn
  by_cases h1 : b < a
  · rw [if_pos h1]
  · rw [if_neg h1]
    omega
theorem fin_ok {f t low high f' t' : Int} (hf : mx f low = f') (ht : mn t high = t') (h1 : f' < 55296 ∨ 57343 < t') (h2 : f' ≤ t') : fin f t low high = (f', t') := by
  unfold fin
  rw [hf, ht, if_neg (by omega)]
theorem fin_no {f t low high f' t' : Int} (hf : mx f low = f') (ht : mn t high = t') (h : (55296 ≤ f' ∧ t' ≤ 57343) ∨ t' < f') : fin f t low high = (-1, -1) := by
  unfold fin
  rw [hf, ht, if_pos (by omega)]

/-- A first byte of two, of three, of four; of none. -/
theorem ref_none (c : UInt8) (t : List UInt8) (h : c.toNat < 192 ∨ 248 ≤ c.toNat) : flailref01_first.l0 60 (nums (c :: t)) 0 1 = some (1, false) :=
  st_bad 58 (c :: t) 0 1 (by omega) (by simp) (least_none 56 c [] h)

theorem ref_two (c : UInt8) (t : List UInt8) (h1 : 192 ≤ c.toNat) (h2 : c.toNat < 224) :
    flailref01_first.l0 60 (nums (c :: t)) 0 1 = some ((((if c.toNat < 194 then (0, false) else goP 1 128 191 t).1 + 1 : Nat) : Int), (if c.toNat < 194 then (0, false) else goP 1 128 191 t).2) := by
  have hr1 : flailref01_least.f 58 (nums [c]) = some (fin (64 * ((c.toNat : Int) - 192)) (64 * ((c.toNat : Int) - 192) + 63) 128 2047) := by
    rw [least_two 57 c [] h1 h2]
    exact run1 53 c _ _ _ (by omega)
  by_cases hc : c.toNat < 194
  · rw [if_pos hc]
    exact st_bad 58 (c :: t) 0 1 (by omega) (by simp) (hr1.trans (congrArg some (fin_no (mx_r (by omega)) (mn_l (by omega)) (by omega))))
  · rw [if_neg hc]
    refine (st_go 58 (c :: t) 0 1 (by omega) (by simp) (hr1.trans (congrArg some (fin_ok (mx_l (by omega)) (mn_l (by omega)) (by omega) (by omega)))) (by omega) (by omega)).trans ?_
    cases t with
    | nil => exact st_end 56 [c] 1 2 (by simp)
    | cons b t =>
      by_cases hb : cont b
      · have hb' := hb
        unfold cont at hb'
        have hg : goP 1 128 191 (b :: t) = (1, true) := by
          simp only [goP]
          rw [if_pos (by omega)]
        rw [hg]
        have hr2 : flailref01_least.f 56 (nums [c, b]) = some (64 * ((c.toNat : Int) - 192) + b.toNat - 128, 64 * ((c.toNat : Int) - 192) + b.toNat - 128) := by
          rw [least_two 55 c [b] h1 h2]
          exact (run2_2 51 c b _ _ _ (by omega) hb).trans (congrArg some (fin_ok (mx_l (by omega)) (mn_l (by omega)) (by omega) (by omega)))
        refine st_hit 56 (c :: b :: t) 1 2 (by omega) (by simp) hr2 (by omega) ?_
        rw [sign_two 55 _ (by omega) (by omega)]
        simp only [List.take_succ_cons, List.take_zero, nums, List.map_cons, List.map_nil]
        rw [show (192 : Int) + (64 * ((c.toNat : Int) - 192) + b.toNat - 128) / 64 = c.toNat by omega, show (128 : Int) + (64 * ((c.toNat : Int) - 192) + b.toNat - 128) % 64 = b.toNat by omega]
      · have hg : goP 1 128 191 (b :: t) = (0, false) := by
          simp only [goP]
          rw [if_neg (by unfold cont at hb; omega)]
        rw [hg]
        refine st_bad 56 (c :: b :: t) 1 2 (by omega) (by simp) ?_
        show flailref01_least.f 56 (nums [c, b]) = _
        rw [least_two 55 c [b] h1 h2]
        exact run_bad 53 c b [] 2 _ _ _ (by simp) hb

theorem ref_three (c : UInt8) (t : List UInt8) (h1 : 224 ≤ c.toNat) (h2 : c.toNat < 240) (lo hi : Nat) (hlo : lo = if c.toNat = 224 then 160 else 128) (hhi : hi = if c.toNat = 237 then 159 else 191) :
    flailref01_first.l0 60 (nums (c :: t)) 0 1 = some ((((goP 2 lo hi t).1 + 1 : Nat) : Int), (goP 2 lo hi t).2) := by
  have hr1 : flailref01_least.f 58 (nums [c]) = some (fin (64 * (64 * ((c.toNat : Int) - 224))) (64 * (64 * ((c.toNat : Int) - 224) + 63) + 63) 2048 65535) := by
    rw [least_three 56 c [] h1 h2]
    exact run1_3 51 c _ _ _ (by omega)
  have hgo1 : flailref01_first.l0 60 (nums (c :: t)) 0 1 = flailref01_first.l0 58 (nums (c :: t)) 1 2 := by
    by_cases hc : c.toNat = 224
    · exact st_go 58 (c :: t) 0 1 (by omega) (by simp) (hr1.trans (congrArg some (fin_ok (mx_r (by omega)) (mn_l (by omega)) (by omega) (by omega)))) (by omega) (by omega)
    · exact st_go 58 (c :: t) 0 1 (by omega) (by simp) (hr1.trans (congrArg some (fin_ok (mx_l (by omega)) (mn_l (by omega)) (by omega) (by omega)))) (by omega) (by omega)
  rw [hgo1]
  have hlo' : lo ≤ 160 ∧ 128 ≤ lo ∧ (c.toNat = 224 → lo = 160) ∧ (c.toNat ≠ 224 → lo = 128) := by
    subst hlo
    split <;> omega
  have hhi' : hi ≤ 191 ∧ 159 ≤ hi ∧ (c.toNat = 237 → hi = 159) ∧ (c.toNat ≠ 237 → hi = 191) := by
    subst hhi
    split <;> omega
  clear hlo hhi
  cases t with
  | nil => exact st_end 56 [c] 1 2 (by simp)
  | cons b t =>
    by_cases hin : lo ≤ b.toNat ∧ b.toNat ≤ hi
    · have hb : cont b := ⟨by omega, by omega⟩
      have hg : goP 2 lo hi (b :: t) = ((goP 1 128 191 t).1 + 1, (goP 1 128 191 t).2) := by
        rw [goP, if_pos hin]
      rw [hg]
      have hr2 : flailref01_least.f 56 (nums [c, b]) = some (64 * (64 * ((c.toNat : Int) - 224) + b.toNat - 128), 64 * (64 * ((c.toNat : Int) - 224) + b.toNat - 128) + 63) := by
        rw [least_three 54 c [b] h1 h2]
        exact (run2_3 49 c b _ _ _ (by omega) hb).trans (congrArg some (fin_ok (mx_l (by omega)) (mn_l (by omega)) (by omega) (by omega)))
      refine (st_go 56 (c :: b :: t) 1 2 (by omega) (by simp) hr2 (by omega) (by omega)).trans ?_
      cases t with
      | nil => exact st_end 54 [c, b] 2 3 (by simp)
      | cons d t =>
        by_cases hd : cont d
        · have hd' := hd
          unfold cont at hd'
          have hg2 : goP 1 128 191 (d :: t) = (1, true) := by
            simp only [goP]
            rw [if_pos (by omega)]
          rw [hg2]
          have hr3 : flailref01_least.f 54 (nums [c, b, d]) = some (64 * (64 * ((c.toNat : Int) - 224) + b.toNat - 128) + d.toNat - 128, 64 * (64 * ((c.toNat : Int) - 224) + b.toNat - 128) + d.toNat - 128) := by
            rw [least_three 52 c [b, d] h1 h2]
            exact (run3_3 47 c b d _ _ _ (by omega) hb hd).trans (congrArg some (fin_ok (mx_l (by omega)) (mn_l (by omega)) (by omega) (by omega)))
          refine st_hit 54 (c :: b :: d :: t) 2 3 (by omega) (by simp) hr3 (by omega) ?_
          rw [sign_three 53 _ (by omega) (by omega) (by omega)]
          simp only [List.take_succ_cons, List.take_zero, nums, List.map_cons, List.map_nil]
          rw [show (224 : Int) + (64 * (64 * ((c.toNat : Int) - 224) + b.toNat - 128) + d.toNat - 128) / 4096 = c.toNat by omega, show (128 : Int) + (64 * (64 * ((c.toNat : Int) - 224) + b.toNat - 128) + d.toNat - 128) / 64 % 64 = b.toNat by omega, show (128 : Int) + (64 * (64 * ((c.toNat : Int) - 224) + b.toNat - 128) + d.toNat - 128) % 64 = d.toNat by omega]
        · have hg2 : goP 1 128 191 (d :: t) = (0, false) := by
            simp only [goP]
            rw [if_neg (by unfold cont at hd; omega)]
          rw [hg2]
          refine st_bad 54 (c :: b :: d :: t) 2 3 (by omega) (by simp) ?_
          show flailref01_least.f 54 (nums [c, b, d]) = _
          rw [least_three 52 c [b, d] h1 h2]
          exact run_bad2 49 c b d [] 3 _ _ _ (by simp) (by simp) (by omega) hb hd
    · have hg : goP 2 lo hi (b :: t) = (0, false) := by
        rw [goP, if_neg hin]
      rw [hg]
      refine st_bad 56 (c :: b :: t) 1 2 (by omega) (by simp) ?_
      show flailref01_least.f 56 (nums [c, b]) = _
      rw [least_three 54 c [b] h1 h2]
      by_cases hb : cont b
      · have hb' := hb
        unfold cont at hb'
        refine (run2_3 49 c b _ _ _ (by omega) hb).trans (congrArg some ?_)
        by_cases hc : c.toNat = 224
        · exact fin_no (mx_r (by omega)) (mn_l (by omega)) (by omega)
        · exact fin_no (mx_l (by omega)) (mn_l (by omega)) (by omega)
      · exact run_bad 52 c b [] 3 _ _ _ (by simp) hb

theorem ref_four (c : UInt8) (t : List UInt8) (h1 : 240 ≤ c.toNat) (h2 : c.toNat < 248) (lo hi : Nat) (hlo : lo = if c.toNat = 240 then 144 else 128) (hhi : hi = if c.toNat = 244 then 143 else 191) :
    flailref01_first.l0 60 (nums (c :: t)) 0 1 = some ((((if 245 ≤ c.toNat then (0, false) else goP 3 lo hi t).1 + 1 : Nat) : Int), (if 245 ≤ c.toNat then (0, false) else goP 3 lo hi t).2) := by
  have hr1 : flailref01_least.f 58 (nums [c]) = some (fin (64 * (64 * (64 * ((c.toNat : Int) - 240)))) (64 * (64 * (64 * ((c.toNat : Int) - 240) + 63) + 63) + 63) 65536 1114111) := by
    rw [least_four 56 c [] h1 h2]
    exact run1_4 50 c _ _ _ (by omega)
  by_cases hc5 : 245 ≤ c.toNat
  · rw [if_pos hc5]
    exact st_bad 58 (c :: t) 0 1 (by omega) (by simp) (hr1.trans (congrArg some (fin_no (mx_l (by omega)) (mn_r (by omega)) (by omega))))
  rw [if_neg hc5]
  have hgo1 : flailref01_first.l0 60 (nums (c :: t)) 0 1 = flailref01_first.l0 58 (nums (c :: t)) 1 2 := by
    by_cases hc : c.toNat = 240
    · exact st_go 58 (c :: t) 0 1 (by omega) (by simp) (hr1.trans (congrArg some (fin_ok (mx_r (by omega)) (mn_l (by omega)) (by omega) (by omega)))) (by omega) (by omega)
    · by_cases hc4 : c.toNat = 244
      · exact st_go 58 (c :: t) 0 1 (by omega) (by simp) (hr1.trans (congrArg some (fin_ok (mx_l (by omega)) (mn_r (by omega)) (by omega) (by omega)))) (by omega) (by omega)
      · exact st_go 58 (c :: t) 0 1 (by omega) (by simp) (hr1.trans (congrArg some (fin_ok (mx_l (by omega)) (mn_l (by omega)) (by omega) (by omega)))) (by omega) (by omega)
  rw [hgo1]
  have hlo' : lo ≤ 144 ∧ 128 ≤ lo ∧ (c.toNat = 240 → lo = 144) ∧ (c.toNat ≠ 240 → lo = 128) := by
    subst hlo
    split <;> omega
  have hhi' : hi ≤ 191 ∧ 143 ≤ hi ∧ (c.toNat = 244 → hi = 143) ∧ (c.toNat ≠ 244 → hi = 191) := by
    subst hhi
    split <;> omega
  clear hlo hhi
  cases t with
  | nil => exact st_end 56 [c] 1 2 (by simp)
  | cons b t =>
    by_cases hin : lo ≤ b.toNat ∧ b.toNat ≤ hi
    · have hb : cont b := ⟨by omega, by omega⟩
      have hg : goP 3 lo hi (b :: t) = ((goP 2 128 191 t).1 + 1, (goP 2 128 191 t).2) := by
        rw [goP, if_pos hin]
      rw [hg]
      have hr2 : flailref01_least.f 56 (nums [c, b]) = some (64 * (64 * (64 * ((c.toNat : Int) - 240) + b.toNat - 128)), 64 * (64 * (64 * ((c.toNat : Int) - 240) + b.toNat - 128) + 63) + 63) := by
        rw [least_four 54 c [b] h1 h2]
        exact (run2_4 48 c b _ _ _ (by omega) hb).trans (congrArg some (fin_ok (mx_l (by omega)) (mn_l (by omega)) (by omega) (by omega)))
      refine (st_go 56 (c :: b :: t) 1 2 (by omega) (by simp) hr2 (by omega) (by omega)).trans ?_
      cases t with
      | nil => exact st_end 54 [c, b] 2 3 (by simp)
      | cons d t =>
        by_cases hd : cont d
        · have hd' := hd
          unfold cont at hd'
          have hg2 : goP 2 128 191 (d :: t) = ((goP 1 128 191 t).1 + 1, (goP 1 128 191 t).2) := by
            rw [goP, if_pos (by omega)]
          rw [hg2]
          have hr3 : flailref01_least.f 54 (nums [c, b, d]) = some (64 * (64 * (64 * ((c.toNat : Int) - 240) + b.toNat - 128) + d.toNat - 128), 64 * (64 * (64 * ((c.toNat : Int) - 240) + b.toNat - 128) + d.toNat - 128) + 63) := by
            rw [least_four 52 c [b, d] h1 h2]
            exact (run3_4 46 c b d _ _ _ (by omega) hb hd).trans (congrArg some (fin_ok (mx_l (by omega)) (mn_l (by omega)) (by omega) (by omega)))
          refine (st_go 54 (c :: b :: d :: t) 2 3 (by omega) (by simp) hr3 (by omega) (by omega)).trans ?_
          cases t with
          | nil => exact st_end 52 [c, b, d] 3 4 (by simp)
          | cons e t =>
            by_cases he : cont e
            · have he' := he
              unfold cont at he'
              have hg3 : goP 1 128 191 (e :: t) = (1, true) := by
                simp only [goP]
                rw [if_pos (by omega)]
              rw [hg3]
              have hr4 : flailref01_least.f 52 (nums [c, b, d, e]) = some (64 * (64 * (64 * ((c.toNat : Int) - 240) + b.toNat - 128) + d.toNat - 128) + e.toNat - 128, 64 * (64 * (64 * ((c.toNat : Int) - 240) + b.toNat - 128) + d.toNat - 128) + e.toNat - 128) := by
                rw [least_four 50 c [b, d, e] h1 h2]
                exact (run4_4 44 c b d e _ _ _ (by omega) hb hd he).trans (congrArg some (fin_ok (mx_l (by omega)) (mn_l (by omega)) (by omega) (by omega)))
              refine st_hit 52 (c :: b :: d :: e :: t) 3 4 (by omega) (by simp) hr4 (by omega) ?_
              rw [sign_four 51 _ (by omega) (by omega)]
              simp only [List.take_succ_cons, List.take_zero, nums, List.map_cons, List.map_nil]
              rw [show (240 : Int) + (64 * (64 * (64 * ((c.toNat : Int) - 240) + b.toNat - 128) + d.toNat - 128) + e.toNat - 128) / 262144 = c.toNat by omega, show (128 : Int) + (64 * (64 * (64 * ((c.toNat : Int) - 240) + b.toNat - 128) + d.toNat - 128) + e.toNat - 128) / 4096 % 64 = b.toNat by omega, show (128 : Int) + (64 * (64 * (64 * ((c.toNat : Int) - 240) + b.toNat - 128) + d.toNat - 128) + e.toNat - 128) / 64 % 64 = d.toNat by omega, show (128 : Int) + (64 * (64 * (64 * ((c.toNat : Int) - 240) + b.toNat - 128) + d.toNat - 128) + e.toNat - 128) % 64 = e.toNat by omega]
            · have hg3 : goP 1 128 191 (e :: t) = (0, false) := by
                simp only [goP]
                rw [if_neg (by unfold cont at he; omega)]
              rw [hg3]
              refine st_bad 52 (c :: b :: d :: e :: t) 3 4 (by omega) (by simp) ?_
              show flailref01_least.f 52 (nums [c, b, d, e]) = _
              rw [least_four 50 c [b, d, e] h1 h2]
              exact run_bad3 46 c b d e _ _ _ (by omega) hb hd he
        · have hg2 : goP 2 128 191 (d :: t) = (0, false) := by
            rw [goP, if_neg (by unfold cont at hd; omega)]
          rw [hg2]
          refine st_bad 54 (c :: b :: d :: t) 2 3 (by omega) (by simp) ?_
          show flailref01_least.f 54 (nums [c, b, d]) = _
          rw [least_four 52 c [b, d] h1 h2]
          exact run_bad2 49 c b d [] 4 _ _ _ (by simp) (by simp) (by omega) hb hd
    · have hg : goP 3 lo hi (b :: t) = (0, false) := by
        rw [goP, if_neg hin]
      rw [hg]
      refine st_bad 56 (c :: b :: t) 1 2 (by omega) (by simp) ?_
      show flailref01_least.f 56 (nums [c, b]) = _
      rw [least_four 54 c [b] h1 h2]
      by_cases hb : cont b
      · have hb' := hb
        unfold cont at hb'
        refine (run2_4 48 c b _ _ _ (by omega) hb).trans (congrArg some ?_)
        by_cases hc : c.toNat = 240
        · exact fin_no (mx_r (by omega)) (mn_l (by omega)) (by omega)
        · exact fin_no (mx_l (by omega)) (mn_r (by omega)) (by omega)
      · exact run_bad 52 c b [] 4 _ _ _ (by simp) hb

theorem tail_1 {c : Nat} (h : c < 194 ∨ 245 ≤ c) : tailP c = (128, 191, 1) := by
  unfold tailP
  rw [if_neg (by omega), if_neg (by omega), if_neg (by omega), if_neg (by omega), if_neg (by omega), if_neg (by omega), if_neg (by omega)]
theorem tail_2 {c : Nat} (h : 194 ≤ c ∧ c ≤ 223) : tailP c = (128, 191, 2) := by
  unfold tailP
  rw [if_pos h]
theorem tail_3 {c : Nat} (h : 224 ≤ c ∧ c ≤ 239) : tailP c = (if c = 224 then 160 else 128, if c = 237 then 159 else 191, 3) := by
  unfold tailP
  rw [if_neg (by omega)]
  by_cases h1 : c = 224
  · rw [if_pos h1, if_pos h1, if_neg (by omega)]
  · rw [if_neg h1, if_neg h1]
    by_cases h2 : c = 237
    · rw [if_pos h2, if_pos h2]
    · rw [if_neg h2, if_neg h2, if_pos (by omega)]
theorem tail_4 {c : Nat} (h : 240 ≤ c ∧ c ≤ 244) : tailP c = (if c = 240 then 144 else 128, if c = 244 then 143 else 191, 4) := by
  unfold tailP
  rw [if_neg (by omega), if_neg (by omega), if_neg (by omega), if_neg (by omega)]
  by_cases h1 : c = 240
  · rw [if_pos h1, if_pos h1, if_neg (by omega)]
  · rw [if_neg h1, if_neg h1]
    by_cases h2 : c = 244
    · rw [if_pos h2, if_pos h2]
    · rw [if_neg h2, if_neg h2, if_pos (by omega)]

theorem ref_first (L : List UInt8) (h : L ≠ []) (hn : L.length ≤ 1000000000) : flailref01_first.f 60 (nums L) = some (((firstP L).1 : Int), (firstP L).2) := by
  cases L with
  | nil => exact absurd rfl h
  | cons c t =>
    have hb := byte_lt c
    have h0 : rd (nums (c :: t)) 0 = (c.toNat : Int) := nums_rd (L := c :: t) (i := 0) (by simp)
    have hl : (nums (c :: t)).length = t.length + 1 := by rw [nums_length]; rfl
    rw [flailref01_first.f, if_pos (by omega), h0]
    by_cases h1 : c.toNat < 128
    · rw [if_pos (by omega)]
      simp only [firstP, if_pos h1]
      rfl
    · rw [if_neg (by omega)]
      simp only [firstP, if_neg h1]
      by_cases h2 : c.toNat < 192
      · rw [ref_none c t (Or.inl h2), tail_1 (Or.inl (by omega))]
        simp [goP]
      · by_cases h3 : c.toNat < 224
        · rw [ref_two c t (by omega) h3]
          by_cases h4 : c.toNat < 194
          · rw [if_pos h4, tail_1 (Or.inl h4)]
            simp [goP]
          · rw [if_neg h4, tail_2 (by omega)]
            simp
        · by_cases h5 : c.toNat < 240
          · rw [ref_three c t (by omega) h5 _ _ rfl rfl, tail_3 (by omega)]
            simp
          · by_cases h6 : c.toNat < 248
            · rw [ref_four c t (by omega) h6 _ _ rfl rfl]
              by_cases h7 : 245 ≤ c.toNat
              · rw [if_pos h7, tail_1 (Or.inr h7)]
                simp [goP]
              · rw [if_neg h7, tail_4 (by omega)]
                simp
            · rw [ref_none c t (Or.inr (by omega)), tail_1 (Or.inr (by omega))]
              simp [goP]
end Go.Proofs.Ytpflkcmjoiakfaa.PAll
