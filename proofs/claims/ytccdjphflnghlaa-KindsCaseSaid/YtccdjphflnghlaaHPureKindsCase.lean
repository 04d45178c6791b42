/- Names are written in small letters: of every number and letter, the law's call returns true. No condition. -/
import Derived.Test.YtccdjphflnghlaaHKindsCasex2
namespace Go.Proofs.Ytccdjphflnghlaa.Pure
open Go.RowKit Go.Proofs.Ytccdjphflnghlaa.PKindsCase Go.Proofs.Ytccdjphflnghlaa.HKindsCase Go.Proofs.YtccdjphflnghlaaW.PrintWords Go.Proofs.YtccdjphflnghlaaW.PrintLast

theorem wrap_up {i n : Nat} (h : i < n) (hn : n ≤ 1000) : wrap64 ((i : Int) + 1) = ((i + 1 : Nat) : Int) := by
  unfold wrap64
  omega

/-- Is a text one of some? -/
def hasN (L : List ByteArray) (s : ByteArray) : Bool := L.any (fun x => s.toList == x.toList)

theorem index_l0 (xs : List ByteArray) (s : ByteArray) (hn : xs.length ≤ 1000) (d : Nat) : ∀ (k i : Nat), xs.length - i = d → i ≤ xs.length → d < k →
    ∃ r, slices_Index_string_string.l0 k xs s (xs.length : Int) (i : Int) = some r ∧ decide (r ≥ 0) = hasN (xs.drop i) s := by
  induction d with
  | zero =>
    intro k i hd hi hk
    obtain ⟨k, rfl⟩ : ∃ m, k = m + 1 := ⟨k - 1, by omega⟩
    obtain rfl : i = xs.length := by omega
    refine ⟨-1, ?_, ?_⟩
    · simp only [slices_Index_string_string.l0]
      rw [if_neg (by omega)]
    · simp [hasN]
  | succ d ih =>
    intro k i hd hi hk
    obtain ⟨k, rfl⟩ : ∃ m, k = m + 1 := ⟨k - 1, by omega⟩
    have hlt : i < xs.length := by omega
    have hdrop : xs.drop i = xs[i] :: xs.drop (i + 1) := by simp
    have hrd : rdOf ByteArray.empty xs (i : Int) = xs[i] := by simp [rdOf, hlt]
    by_cases hc : s.toList = xs[i].toList
    · refine ⟨i, ?_, ?_⟩
      · simp only [slices_Index_string_string.l0]
        rw [if_pos (by omega), if_pos (by omega), if_pos (by omega), hrd, if_pos hc]
      · rw [hdrop]
        show decide ((i : Int) ≥ 0) = (s.toList == xs[i].toList || hasN (xs.drop (i + 1)) s)
        rw [beq_iff_eq.mpr hc, Bool.true_or]
        exact decide_eq_true (by omega)
    · obtain ⟨r, hr, hb⟩ := ih k (i + 1) (by omega) (by omega) (by omega)
      refine ⟨r, ?_, ?_⟩
      · simp only [slices_Index_string_string.l0]
        rw [if_pos (by omega), if_pos (by omega), if_pos (by omega), hrd, if_neg hc, wrap_up hlt hn]
        exact hr
      · rw [hb, hdrop]
        have hc' : (s.toList == xs[i].toList) = false := beq_eq_false_iff_ne.mpr hc
        show hasN (xs.drop (i + 1)) s = (s.toList == xs[i].toList || hasN (xs.drop (i + 1)) s)
        rw [hc', Bool.false_or]

theorem one_at (L : List ByteArray) (s : ByteArray) (k : Nat) (hn : L.length ≤ 1000) (hk : L.length < k) : kinds_one.f k s L = some (hasN L s) := by
  obtain ⟨r, hr, hb⟩ := index_l0 L s hn L.length k 0 (by omega) (by omega) hk
  unfold kinds_one.f slices_Contains_string_string.f slices_Index_string_string.f
  have hr' : slices_Index_string_string.l0 k L s (L.length : Int) 0 = some r := hr
  rw [hr']
  simp only [Option.bind_some]
  rw [hb, List.drop_zero]

def LH : List ByteArray := [(⟨#[104, 101, 97, 100]⟩ : ByteArray), (⟨#[105, 102, 114, 97, 109, 101]⟩ : ByteArray), (⟨#[110, 111, 101, 109, 98, 101, 100]⟩ : ByteArray), (⟨#[110, 111, 102, 114, 97, 109, 101, 115]⟩ : ByteArray), (⟨#[110, 111, 115, 99, 114, 105, 112, 116]⟩ : ByteArray), (⟨#[115, 99, 114, 105, 112, 116]⟩ : ByteArray), (⟨#[115, 116, 121, 108, 101]⟩ : ByteArray), (⟨#[116, 101, 109, 112, 108, 97, 116, 101]⟩ : ByteArray), (⟨#[116, 105, 116, 108, 101]⟩ : ByteArray)]
def LK : List ByteArray := [(⟨#[108, 105, 115, 116, 105, 110, 103]⟩ : ByteArray), (⟨#[112, 108, 97, 105, 110, 116, 101, 120, 116]⟩ : ByteArray), (⟨#[112, 114, 101]⟩ : ByteArray), (⟨#[116, 101, 120, 116, 97, 114, 101, 97]⟩ : ByteArray), (⟨#[120, 109, 112]⟩ : ByteArray)]
def L2 : List ByteArray := [(⟨#[98, 108, 111, 99, 107, 113, 117, 111, 116, 101]⟩ : ByteArray), (⟨#[104, 49]⟩ : ByteArray), (⟨#[104, 50]⟩ : ByteArray), (⟨#[104, 51]⟩ : ByteArray), (⟨#[104, 52]⟩ : ByteArray), (⟨#[104, 53]⟩ : ByteArray), (⟨#[104, 54]⟩ : ByteArray), (⟨#[108, 105, 115, 116, 105, 110, 103]⟩ : ByteArray), (⟨#[111, 108]⟩ : ByteArray), (⟨#[112]⟩ : ByteArray), (⟨#[112, 108, 97, 105, 110, 116, 101, 120, 116]⟩ : ByteArray), (⟨#[112, 114, 101]⟩ : ByteArray), (⟨#[116, 97, 98, 108, 101]⟩ : ByteArray), (⟨#[117, 108]⟩ : ByteArray), (⟨#[120, 109, 112]⟩ : ByteArray)]
def LA : List ByteArray := [(⟨#[97, 100, 100, 114, 101, 115, 115]⟩ : ByteArray), (⟨#[97, 114, 116, 105, 99, 108, 101]⟩ : ByteArray), (⟨#[97, 115, 105, 100, 101]⟩ : ByteArray), (⟨#[98, 111, 100, 121]⟩ : ByteArray), (⟨#[99, 101, 110, 116, 101, 114]⟩ : ByteArray), (⟨#[100, 100]⟩ : ByteArray), (⟨#[100, 101, 116, 97, 105, 108, 115]⟩ : ByteArray), (⟨#[100, 105, 97, 108, 111, 103]⟩ : ByteArray), (⟨#[100, 105, 114]⟩ : ByteArray), (⟨#[100, 105, 118]⟩ : ByteArray), (⟨#[100, 108]⟩ : ByteArray), (⟨#[100, 116]⟩ : ByteArray), (⟨#[102, 105, 101, 108, 100, 115, 101, 116]⟩ : ByteArray), (⟨#[102, 105, 103, 99, 97, 112, 116, 105, 111, 110]⟩ : ByteArray), (⟨#[102, 105, 103, 117, 114, 101]⟩ : ByteArray), (⟨#[102, 111, 111, 116, 101, 114]⟩ : ByteArray), (⟨#[102, 111, 114, 109]⟩ : ByteArray)]
def LB : List ByteArray := [(⟨#[104, 101, 97, 100, 101, 114]⟩ : ByteArray), (⟨#[104, 103, 114, 111, 117, 112]⟩ : ByteArray), (⟨#[104, 114]⟩ : ByteArray), (⟨#[104, 116, 109, 108]⟩ : ByteArray), (⟨#[108, 101, 103, 101, 110, 100]⟩ : ByteArray), (⟨#[108, 105]⟩ : ByteArray), (⟨#[109, 97, 105, 110]⟩ : ByteArray), (⟨#[109, 101, 110, 117]⟩ : ByteArray), (⟨#[110, 97, 118]⟩ : ByteArray), (⟨#[111, 112, 116, 105, 111, 110]⟩ : ByteArray), (⟨#[115, 101, 97, 114, 99, 104]⟩ : ByteArray), (⟨#[115, 101, 99, 116, 105, 111, 110]⟩ : ByteArray), (⟨#[115, 117, 109, 109, 97, 114, 121]⟩ : ByteArray), (⟨#[116, 114]⟩ : ByteArray)]
def LV : List ByteArray := [(⟨#[97, 114, 101, 97]⟩ : ByteArray), (⟨#[98, 97, 115, 101]⟩ : ByteArray), (⟨#[98, 114]⟩ : ByteArray), (⟨#[99, 111, 108]⟩ : ByteArray), (⟨#[101, 109, 98, 101, 100]⟩ : ByteArray), (⟨#[104, 114]⟩ : ByteArray), (⟨#[105, 109, 103]⟩ : ByteArray), (⟨#[105, 110, 112, 117, 116]⟩ : ByteArray), (⟨#[108, 105, 110, 107]⟩ : ByteArray), (⟨#[109, 101, 116, 97]⟩ : ByteArray), (⟨#[115, 111, 117, 114, 99, 101]⟩ : ByteArray), (⟨#[116, 114, 97, 99, 107]⟩ : ByteArray), (⟨#[119, 98, 114]⟩ : ByteArray)]

/-- How many ends of lines. -/
def linesN (s : ByteArray) : Int := if hasN L2 s = true then 2 else if hasN LA s = true then 1 else if hasN LB s = true then 1 else 0

theorem hides_at (s : ByteArray) (k : Nat) (hk : 100 < k) : kinds_Hides.f k s = some (hasN LH s) := by
  have h := one_at LH s k (by decide) (Nat.lt_of_le_of_lt (by decide) hk)
  unfold kinds_Hides.f
  unfold LH at *
  rw [h]
  rfl
theorem keeps_at (s : ByteArray) (k : Nat) (hk : 100 < k) : kinds_Keeps.f k s = some (hasN LK s) := by
  have h := one_at LK s k (by decide) (Nat.lt_of_le_of_lt (by decide) hk)
  unfold kinds_Keeps.f
  unfold LK at *
  rw [h]
  rfl
theorem void_at (s : ByteArray) (k : Nat) (hk : 100 < k) : kinds_Void.f k s = some (hasN LV s) := by
  have h := one_at LV s k (by decide) (Nat.lt_of_le_of_lt (by decide) hk)
  unfold kinds_Void.f
  unfold LV at *
  rw [h]
  rfl
theorem lines_at (s : ByteArray) (k : Nat) (hk : 100 < k) : kinds_Lines.f k s = some (linesN s) := by
  have h2 := one_at L2 s k (by decide) (Nat.lt_of_le_of_lt (by decide) hk)
  have ha := one_at LA s k (by decide) (Nat.lt_of_le_of_lt (by decide) hk)
  have hb := one_at LB s k (by decide) (Nat.lt_of_le_of_lt (by decide) hk)
  unfold kinds_Lines.f linesN
  unfold L2 LA LB at *
  rw [h2, ha, hb]
  simp only [Option.bind_some]
  split
  · rfl
  · split
    · rfl
    · split <;> rfl

theorem has_data (L : List ByteArray) (s : ByteArray) : hasN L s = L.any (fun x => s.data.toList == x.data.toList) := by
  unfold hasN
  simp only [ByteArray.toList_eq]

theorem awake_at (k : Nat) (hk : 101 < k) : flaillaw17_awake.f k = some true := by
  unfold flaillaw17_awake.f
  rw [lines_at _ k (by omega), lines_at _ k (by omega), lines_at _ k (by omega), hides_at _ k (by omega), keeps_at _ k (by omega), void_at _ k (by omega)]
  simp only [Option.bind_some, linesN, has_data]
  decide +kernel

/-- A byte that may stand in one of the names: a small letter, or a digit from 1 to 6. -/
def okB (c : UInt8) : Bool := (decide (97 ≤ c) && decide (c ≤ 122)) || (decide (49 ≤ c) && decide (c ≤ 54))

theorem none_of {L : List ByteArray} (hL : L.all (fun x => x.data.toList.all okB) = true) {s : ByteArray} {c : UInt8} (hc : c ∈ s.data.toList) (ho : okB c = false) : hasN L s = false := by
  rw [has_data, List.any_eq_false]
  intro x hx he
  have h1 := List.all_eq_true.mp hL x hx
  have he' : s.data.toList = x.data.toList := eq_of_beq he
  rw [he'] at hc
  have h2 := List.all_eq_true.mp h1 c hc
  rw [ho] at h2
  exact absurd h2 (by decide)

theorem hides_no {s : ByteArray} {c : UInt8} (hc : c ∈ s.data.toList) (ho : okB c = false) : hasN LH s = false := none_of (by decide +kernel) hc ho
theorem keeps_no {s : ByteArray} {c : UInt8} (hc : c ∈ s.data.toList) (ho : okB c = false) : hasN LK s = false := none_of (by decide +kernel) hc ho
theorem void_no {s : ByteArray} {c : UInt8} (hc : c ∈ s.data.toList) (ho : okB c = false) : hasN LV s = false := none_of (by decide +kernel) hc ho
theorem lines_no {s : ByteArray} {c : UInt8} (hc : c ∈ s.data.toList) (ho : okB c = false) : linesN s = 0 := by
  have h2 : hasN L2 s = false := none_of (by decide +kernel) hc ho
  have ha : hasN LA s = false := none_of (by decide +kernel) hc ho
  have hb : hasN LB s = false := none_of (by decide +kernel) hc ho
  unfold linesN
  rw [h2, ha, hb]
  rfl

def LN : List ByteArray := [(⟨#[104, 101, 97, 100]⟩ : ByteArray), (⟨#[105, 102, 114, 97, 109, 101]⟩ : ByteArray), (⟨#[110, 111, 101, 109, 98, 101, 100]⟩ : ByteArray), (⟨#[110, 111, 102, 114, 97, 109, 101, 115]⟩ : ByteArray), (⟨#[110, 111, 115, 99, 114, 105, 112, 116]⟩ : ByteArray), (⟨#[115, 99, 114, 105, 112, 116]⟩ : ByteArray), (⟨#[115, 116, 121, 108, 101]⟩ : ByteArray), (⟨#[116, 101, 109, 112, 108, 97, 116, 101]⟩ : ByteArray), (⟨#[116, 105, 116, 108, 101]⟩ : ByteArray), (⟨#[108, 105, 115, 116, 105, 110, 103]⟩ : ByteArray), (⟨#[112, 108, 97, 105, 110, 116, 101, 120, 116]⟩ : ByteArray), (⟨#[112, 114, 101]⟩ : ByteArray), (⟨#[116, 101, 120, 116, 97, 114, 101, 97]⟩ : ByteArray), (⟨#[120, 109, 112]⟩ : ByteArray), (⟨#[97, 114, 101, 97]⟩ : ByteArray), (⟨#[98, 97, 115, 101]⟩ : ByteArray), (⟨#[98, 114]⟩ : ByteArray), (⟨#[99, 111, 108]⟩ : ByteArray), (⟨#[101, 109, 98, 101, 100]⟩ : ByteArray), (⟨#[104, 114]⟩ : ByteArray), (⟨#[105, 109, 103]⟩ : ByteArray), (⟨#[105, 110, 112, 117, 116]⟩ : ByteArray), (⟨#[108, 105, 110, 107]⟩ : ByteArray), (⟨#[109, 101, 116, 97]⟩ : ByteArray), (⟨#[115, 111, 117, 114, 99, 101]⟩ : ByteArray), (⟨#[116, 114, 97, 99, 107]⟩ : ByteArray), (⟨#[119, 98, 114]⟩ : ByteArray), (⟨#[98, 108, 111, 99, 107, 113, 117, 111, 116, 101]⟩ : ByteArray), (⟨#[104, 49]⟩ : ByteArray), (⟨#[104, 50]⟩ : ByteArray), (⟨#[104, 51]⟩ : ByteArray), (⟨#[104, 52]⟩ : ByteArray), (⟨#[104, 53]⟩ : ByteArray), (⟨#[104, 54]⟩ : ByteArray), (⟨#[111, 108]⟩ : ByteArray), (⟨#[112]⟩ : ByteArray), (⟨#[116, 97, 98, 108, 101]⟩ : ByteArray), (⟨#[117, 108]⟩ : ByteArray), (⟨#[97, 100, 100, 114, 101, 115, 115]⟩ : ByteArray), (⟨#[97, 114, 116, 105, 99, 108, 101]⟩ : ByteArray), (⟨#[97, 115, 105, 100, 101]⟩ : ByteArray), (⟨#[98, 111, 100, 121]⟩ : ByteArray), (⟨#[99, 101, 110, 116, 101, 114]⟩ : ByteArray), (⟨#[100, 100]⟩ : ByteArray), (⟨#[100, 101, 116, 97, 105, 108, 115]⟩ : ByteArray), (⟨#[100, 105, 97, 108, 111, 103]⟩ : ByteArray), (⟨#[100, 105, 114]⟩ : ByteArray), (⟨#[100, 105, 118]⟩ : ByteArray), (⟨#[100, 108]⟩ : ByteArray), (⟨#[100, 116]⟩ : ByteArray), (⟨#[102, 105, 101, 108, 100, 115, 101, 116]⟩ : ByteArray), (⟨#[102, 105, 103, 99, 97, 112, 116, 105, 111, 110]⟩ : ByteArray), (⟨#[102, 105, 103, 117, 114, 101]⟩ : ByteArray), (⟨#[102, 111, 111, 116, 101, 114]⟩ : ByteArray), (⟨#[102, 111, 114, 109]⟩ : ByteArray), (⟨#[104, 101, 97, 100, 101, 114]⟩ : ByteArray), (⟨#[104, 103, 114, 111, 117, 112]⟩ : ByteArray), (⟨#[104, 116, 109, 108]⟩ : ByteArray), (⟨#[108, 101, 103, 101, 110, 100]⟩ : ByteArray), (⟨#[108, 105]⟩ : ByteArray), (⟨#[109, 97, 105, 110]⟩ : ByteArray), (⟨#[109, 101, 110, 117]⟩ : ByteArray), (⟨#[110, 97, 118]⟩ : ByteArray), (⟨#[111, 112, 116, 105, 111, 110]⟩ : ByteArray), (⟨#[115, 101, 97, 114, 99, 104]⟩ : ByteArray), (⟨#[115, 101, 99, 116, 105, 111, 110]⟩ : ByteArray), (⟨#[115, 117, 109, 109, 97, 114, 121]⟩ : ByteArray), (⟨#[116, 114]⟩ : ByteArray), (⟨#[98]⟩ : ByteArray), (⟨#[97]⟩ : ByteArray), (⟨#[104, 55]⟩ : ByteArray), (⟨#[116, 100]⟩ : ByteArray), (⟨#[]⟩ : ByteArray), (⟨#[80]⟩ : ByteArray), (⟨#[113]⟩ : ByteArray), (⟨#[115, 112, 97, 110]⟩ : ByteArray), (⟨#[116, 104]⟩ : ByteArray), (⟨#[115, 118, 103]⟩ : ByteArray)]

/-- The index that a number picks, out of the names. -/
theorem picks (n : Int) (h0 : 0 ≤ n) (h1 : n ≤ 65535) : ∃ i : Nat, i < 78 ∧ Int.tmod (wrap64 n) ((LN.length : Nat) : Int) = (i : Int) := by
  have hw : wrap64 n = n := by
    unfold wrap64
    omega
  have hl : ((LN.length : Nat) : Int) = 78 := by decide
  refine ⟨(n % 78).toNat, by omega, ?_⟩
  rw [hw, hl, Int.tmod_eq_emod_of_nonneg h0]
  omega
theorem LN_len : ((LN.length : Nat) : Int) = 78 := by decide
theorem names_at : flailref17_Names.f = some LN := rfl
theorem of_u16 {n : Int} (h : (Lit.int .u16 n).wf = true) : 0 ≤ n ∧ n ≤ 65535 := by
  simp [Lit.wf, IntKind.min, IntKind.max, IntKind.signed, IntKind.bits] at h
  omega
theorem of_u8 {n : Int} (h : (Lit.int .u8 n).wf = true) : 0 ≤ n ∧ n ≤ 255 := by
  simp [Lit.wf, IntKind.min, IntKind.max, IntKind.signed, IntKind.bits] at h
  omega
theorem u16_bounds {n : Int} (h : (Lit.int .u16 n).wf = true) : 0 ≤ n ∧ n ≤ 65535 := by
  exact of_u16 h

theorem small_names : ∀ x ∈ LN, x.size ≤ 20 := by
  have h : LN.all (fun x => decide (x.size ≤ 20)) = true := by decide +kernel
  intro x hx
  exact of_decide_eq_true (List.all_eq_true.mp h x hx)

theorem rd_names (i : Nat) (hi : i < 78) : rdOf ByteArray.empty LN (i : Int) ∈ LN := by
  have hl : LN.length = 78 := by decide
  have h : i < LN.length := by omega
  have e : rdOf ByteArray.empty LN (i : Int) = LN[i] := by simp [rdOf, h]
  rw [e]
  exact List.getElem_mem h

theorem case_at (a : ByteArray) (ha : a.size ≤ 20) (i : Nat) (hi : i < a.size) (x : Bool) (c : Int) (hx : x = false → 97 ≤ c ∧ c ≤ 122) : flaillaw17_KindsCase.j0 (102 + 1) true a (i : Int) c x = some true := by
  simp only [flaillaw17_KindsCase.j0]
  cases x with
  | true => rfl
  | false =>
    obtain ⟨h1, h2⟩ := hx rfl
    have hw : wrap64 ((i : Int) + 1) = (i : Int) + 1 := by
      unfold wrap64
      omega
    have hb : strOfNums [(c - 32) % 256] = ⟨#[UInt8.ofNat (c - 32).toNat]⟩ := by
      have e : (c - 32) % 256 = c - 32 := by omega
      rw [e]
      rfl
    simp only [Option.bind_some]
    rw [hw, hb]
    generalize hu : UInt8.ofNat (c - 32).toNat = u
    have ho : okB u = false := by
      have hu' : u.toNat = (c - 32).toNat := by
        rw [← hu]
        simp
        omega
      unfold okB
      have e1 : ¬ (97 : UInt8) ≤ u := by
        rw [UInt8.le_iff_toNat_le, hu']
        simp
        omega
      have e2 : ¬ u ≤ 54 := by
        rw [UInt8.le_iff_toNat_le, hu']
        simp
        omega
      simp [e1, e2]
    generalize hl : a.extract 0 ((i : Int).toNat) = l
    generalize hr : a.extract ((i : Int) + 1).toNat a.size = r
    have zl : l.size ≤ 20 := by
      rw [← hl, ByteArray.size_extract]
      omega
    have zr : r.size ≤ 20 := by
      rw [← hr, ByteArray.size_extract]
      omega
    have zu : (⟨#[u]⟩ : ByteArray).size = 1 := rfl
    have zlu : (l ++ (⟨#[u]⟩ : ByteArray)).size = l.size + 1 := by
      rw [ByteArray.size_append, zu]
    have hc : u ∈ ((l ++ (⟨#[u]⟩ : ByteArray)) ++ r).data.toList := by
      rw [ByteArray.data_append, ByteArray.data_append]
      simp
    rw [zu, zlu]
    rw [if_neg (by decide), if_pos (by omega), if_pos (by omega), if_pos (by omega), if_pos (by omega), if_pos (by omega), if_pos (by omega), if_pos trivial]
    rw [hides_at _ 102 (by omega), keeps_at _ 102 (by omega), void_at _ 102 (by omega), lines_at _ 102 (by omega), hides_no hc ho, keeps_no hc ho, void_no hc ho, lines_no hc ho]
    simp

theorem KindsCase : flaillaw17_KindsCase.Pure := by
  intro n at_ hn hat
  obtain ⟨h0, h1⟩ := u16_bounds hn
  obtain ⟨h2, h3⟩ := of_u8 hat
  obtain ⟨i, hi, hm⟩ := picks n h0 h1
  have sa := small_names _ (rd_names i hi)
  refine ⟨103, ?_⟩
  unfold flaillaw17_KindsCase.f
  rw [awake_at 103 (by omega), names_at]
  simp only [Option.bind_some]
  rw [hm]
  generalize hs : rdOf ByteArray.empty LN (i : Int) = s at *
  have hl := LN_len
  rw [if_neg (by omega), if_pos (by omega), if_pos (by omega)]
  split
  · rfl
  · rename_i hne
    have hz : s.size ≠ 0 := by
      intro hz
      apply hne
      have hd : s.data.toList.length = 0 := by
        rw [Array.length_toList]
        exact hz
      rw [ByteArray.toList_eq]
      exact List.length_eq_zero_iff.mp hd
    have hw : wrap64 at_ = at_ := by
      unfold wrap64
      omega
    obtain ⟨j, hj, hmj⟩ : ∃ j : Nat, j < s.size ∧ Int.tmod (wrap64 at_) (s.size : Int) = (j : Int) := by
      have p : 0 ≤ at_ % (s.size : Int) := Int.emod_nonneg _ (by omega)
      have q : at_ % (s.size : Int) < (s.size : Int) := Int.emod_lt_of_pos _ (by omega)
      refine ⟨(at_ % (s.size : Int)).toNat, by omega, ?_⟩
      rw [hw, Int.tmod_eq_emod_of_nonneg h2]
      omega
    rw [hmj]
    rw [if_neg (by omega), if_pos (by omega), if_pos (by omega)]
    generalize hc : bt s (j : Int) = c
    split
    · exact case_at s sa j hj true c (fun h => by cases h)
    · refine case_at s sa j hj _ c (fun h => ?_)
      have := of_decide_eq_false h
      omega

end Go.Proofs.Ytccdjphflnghlaa.Pure
