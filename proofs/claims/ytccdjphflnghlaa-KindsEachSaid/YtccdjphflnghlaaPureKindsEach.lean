/- Each name that is named here does what it is to do: of every number, the law's call returns true. No condition. -/
import Derived.Test.YtccdjphflnghlaaPKindsEachx3
namespace Go.Proofs.Ytccdjphflnghlaa.Pure
open Go.RowKit Go.Proofs.Ytccdjphflnghlaa.PKindsEach Go.Proofs.YtccdjphflnghlaaW.PrintWords Go.Proofs.YtccdjphflnghlaaW.PrintLast

theorem wrap_up {i n : Nat} (h : i < n) (hn : n ≤ 1000) : wrap64 ((i : Int) + 1) = ((i + 1 : Nat) : Int) := by
  unfold wrap64
  omega

/-- Is a text one of some? -/
def hasN (L : List ByteArray) (s : ByteArray) : Bool := L.any (fun x => s.toList == x.toList)

theorem index_l0 (xs : List ByteArray) (s : ByteArray) (hn : xs.length ≤ 1000) (d : Nat) : ∀ (k i : Nat), xs.length - i = d → i ≤ xs.length → d < k →
    ∃ r, slices_Index_string_string.l0 k xs s (xs.length : Int) (i : Int) = some r ∧ decide (r ≥ 0) = hasN (xs.drop i) s := by
  induction d with
  | zero =>
    intro k i hd hi hk
    obtain ⟨k, rfl⟩ : ∃ m, k = m + 1 := ⟨k - 1, by omega⟩
    obtain rfl : i = xs.length := by omega
    refine ⟨-1, ?_, ?_⟩
    · simp only [slices_Index_string_string.l0]
      rw [if_neg (by omega)]
    · simp [hasN]
  | succ d ih =>
    intro k i hd hi hk
    obtain ⟨k, rfl⟩ : ∃ m, k = m + 1 := ⟨k - 1, by omega⟩
    have hlt : i < xs.length := by omega
    have hdrop : xs.drop i = xs[i] :: xs.drop (i + 1) := by simp
    have hrd : rdOf ByteArray.empty xs (i : Int) = xs[i] := by simp [rdOf, hlt]
    by_cases hc : s.toList = xs[i].toList
    · refine ⟨i, ?_, ?_⟩
      · simp only [slices_Index_string_string.l0]
        rw [if_pos (by omega), if_pos (by omega), if_pos (by omega), hrd, if_pos hc]
      · rw [hdrop]
        show decide ((i : Int) ≥ 0) = (s.toList == xs[i].toList || hasN (xs.drop (i + 1)) s)
        rw [beq_iff_eq.mpr hc, Bool.true_or]
        exact decide_eq_true (by omega)
    · obtain ⟨r, hr, hb⟩ := ih k (i + 1) (by omega) (by omega) (by omega)
      refine ⟨r, ?_, ?_⟩
      · simp only [slices_Index_string_string.l0]
        rw [if_pos (by omega), if_pos (by omega), if_pos (by omega), hrd, if_neg hc, wrap_up hlt hn]
        exact hr
      · rw [hb, hdrop]
        have hc' : (s.toList == xs[i].toList) = false := beq_eq_false_iff_ne.mpr hc
        show hasN (xs.drop (i + 1)) s = (s.toList == xs[i].toList || hasN (xs.drop (i + 1)) s)
        rw [hc', Bool.false_or]

theorem one_at (L : List ByteArray) (s : ByteArray) (k : Nat) (hn : L.length ≤ 1000) (hk : L.length < k) : kinds_one.f k s L = some (hasN L s) := by
  obtain ⟨r, hr, hb⟩ := index_l0 L s hn L.length k 0 (by omega) (by omega) hk
  unfold kinds_one.f slices_Contains_string_string.f slices_Index_string_string.f
  have hr' : slices_Index_string_string.l0 k L s (L.length : Int) 0 = some r := hr
  rw [hr']
  simp only [Option.bind_some]
  rw [hb, List.drop_zero]

def LH : List ByteArray := [(⟨#[104, 101, 97, 100]⟩ : ByteArray), (⟨#[105, 102, 114, 97, 109, 101]⟩ : ByteArray), (⟨#[110, 111, 101, 109, 98, 101, 100]⟩ : ByteArray), (⟨#[110, 111, 102, 114, 97, 109, 101, 115]⟩ : ByteArray), (⟨#[110, 111, 115, 99, 114, 105, 112, 116]⟩ : ByteArray), (⟨#[115, 99, 114, 105, 112, 116]⟩ : ByteArray), (⟨#[115, 116, 121, 108, 101]⟩ : ByteArray), (⟨#[116, 101, 109, 112, 108, 97, 116, 101]⟩ : ByteArray), (⟨#[116, 105, 116, 108, 101]⟩ : ByteArray)]
def LK : List ByteArray := [(⟨#[108, 105, 115, 116, 105, 110, 103]⟩ : ByteArray), (⟨#[112, 108, 97, 105, 110, 116, 101, 120, 116]⟩ : ByteArray), (⟨#[112, 114, 101]⟩ : ByteArray), (⟨#[116, 101, 120, 116, 97, 114, 101, 97]⟩ : ByteArray), (⟨#[120, 109, 112]⟩ : ByteArray)]
def L2 : List ByteArray := [(⟨#[98, 108, 111, 99, 107, 113, 117, 111, 116, 101]⟩ : ByteArray), (⟨#[104, 49]⟩ : ByteArray), (⟨#[104, 50]⟩ : ByteArray), (⟨#[104, 51]⟩ : ByteArray), (⟨#[104, 52]⟩ : ByteArray), (⟨#[104, 53]⟩ : ByteArray), (⟨#[104, 54]⟩ : ByteArray), (⟨#[108, 105, 115, 116, 105, 110, 103]⟩ : ByteArray), (⟨#[111, 108]⟩ : ByteArray), (⟨#[112]⟩ : ByteArray), (⟨#[112, 108, 97, 105, 110, 116, 101, 120, 116]⟩ : ByteArray), (⟨#[112, 114, 101]⟩ : ByteArray), (⟨#[116, 97, 98, 108, 101]⟩ : ByteArray), (⟨#[117, 108]⟩ : ByteArray), (⟨#[120, 109, 112]⟩ : ByteArray)]
def LA : List ByteArray := [(⟨#[97, 100, 100, 114, 101, 115, 115]⟩ : ByteArray), (⟨#[97, 114, 116, 105, 99, 108, 101]⟩ : ByteArray), (⟨#[97, 115, 105, 100, 101]⟩ : ByteArray), (⟨#[98, 111, 100, 121]⟩ : ByteArray), (⟨#[99, 101, 110, 116, 101, 114]⟩ : ByteArray), (⟨#[100, 100]⟩ : ByteArray), (⟨#[100, 101, 116, 97, 105, 108, 115]⟩ : ByteArray), (⟨#[100, 105, 97, 108, 111, 103]⟩ : ByteArray), (⟨#[100, 105, 114]⟩ : ByteArray), (⟨#[100, 105, 118]⟩ : ByteArray), (⟨#[100, 108]⟩ : ByteArray), (⟨#[100, 116]⟩ : ByteArray), (⟨#[102, 105, 101, 108, 100, 115, 101, 116]⟩ : ByteArray), (⟨#[102, 105, 103, 99, 97, 112, 116, 105, 111, 110]⟩ : ByteArray), (⟨#[102, 105, 103, 117, 114, 101]⟩ : ByteArray), (⟨#[102, 111, 111, 116, 101, 114]⟩ : ByteArray), (⟨#[102, 111, 114, 109]⟩ : ByteArray)]
def LB : List ByteArray := [(⟨#[104, 101, 97, 100, 101, 114]⟩ : ByteArray), (⟨#[104, 103, 114, 111, 117, 112]⟩ : ByteArray), (⟨#[104, 114]⟩ : ByteArray), (⟨#[104, 116, 109, 108]⟩ : ByteArray), (⟨#[108, 101, 103, 101, 110, 100]⟩ : ByteArray), (⟨#[108, 105]⟩ : ByteArray), (⟨#[109, 97, 105, 110]⟩ : ByteArray), (⟨#[109, 101, 110, 117]⟩ : ByteArray), (⟨#[110, 97, 118]⟩ : ByteArray), (⟨#[111, 112, 116, 105, 111, 110]⟩ : ByteArray), (⟨#[115, 101, 97, 114, 99, 104]⟩ : ByteArray), (⟨#[115, 101, 99, 116, 105, 111, 110]⟩ : ByteArray), (⟨#[115, 117, 109, 109, 97, 114, 121]⟩ : ByteArray), (⟨#[116, 114]⟩ : ByteArray)]
def LV : List ByteArray := [(⟨#[97, 114, 101, 97]⟩ : ByteArray), (⟨#[98, 97, 115, 101]⟩ : ByteArray), (⟨#[98, 114]⟩ : ByteArray), (⟨#[99, 111, 108]⟩ : ByteArray), (⟨#[101, 109, 98, 101, 100]⟩ : ByteArray), (⟨#[104, 114]⟩ : ByteArray), (⟨#[105, 109, 103]⟩ : ByteArray), (⟨#[105, 110, 112, 117, 116]⟩ : ByteArray), (⟨#[108, 105, 110, 107]⟩ : ByteArray), (⟨#[109, 101, 116, 97]⟩ : ByteArray), (⟨#[115, 111, 117, 114, 99, 101]⟩ : ByteArray), (⟨#[116, 114, 97, 99, 107]⟩ : ByteArray), (⟨#[119, 98, 114]⟩ : ByteArray)]

/-- How many ends of lines. -/
def linesN (s : ByteArray) : Int := if hasN L2 s = true then 2 else if hasN LA s = true then 1 else if hasN LB s = true then 1 else 0

theorem hides_at (s : ByteArray) (k : Nat) (hk : 100 < k) : kinds_Hides.f k s = some (hasN LH s) := by
  have h := one_at LH s k (by decide) (Nat.lt_of_le_of_lt (by decide) hk)
  unfold kinds_Hides.f
  unfold LH at *
  rw [h]
  rfl
theorem keeps_at (s : ByteArray) (k : Nat) (hk : 100 < k) : kinds_Keeps.f k s = some (hasN LK s) := by
  have h := one_at LK s k (by decide) (Nat.lt_of_le_of_lt (by decide) hk)
  unfold kinds_Keeps.f
  unfold LK at *
  rw [h]
  rfl
theorem void_at (s : ByteArray) (k : Nat) (hk : 100 < k) : kinds_Void.f k s = some (hasN LV s) := by
  have h := one_at LV s k (by decide) (Nat.lt_of_le_of_lt (by decide) hk)
  unfold kinds_Void.f
  unfold LV at *
  rw [h]
  rfl
theorem lines_at (s : ByteArray) (k : Nat) (hk : 100 < k) : kinds_Lines.f k s = some (linesN s) := by
  have h2 := one_at L2 s k (by decide) (Nat.lt_of_le_of_lt (by decide) hk)
  have ha := one_at LA s k (by decide) (Nat.lt_of_le_of_lt (by decide) hk)
  have hb := one_at LB s k (by decide) (Nat.lt_of_le_of_lt (by decide) hk)
  unfold kinds_Lines.f linesN
  unfold L2 LA LB at *
  rw [h2, ha, hb]
  simp only [Option.bind_some]
  split
  · rfl
  · split
    · rfl
    · split <;> rfl

theorem has_data (L : List ByteArray) (s : ByteArray) : hasN L s = L.any (fun x => s.data.toList == x.data.toList) := by
  unfold hasN
  simp only [ByteArray.toList_eq]

theorem awake_at (k : Nat) (hk : 101 < k) : flaillaw17_awake.f k = some true := by
  unfold flaillaw17_awake.f
  rw [lines_at _ k (by omega), lines_at _ k (by omega), lines_at _ k (by omega), hides_at _ k (by omega), keeps_at _ k (by omega), void_at _ k (by omega)]
  simp only [Option.bind_some, linesN, has_data]
  decide +kernel

theorem has_cons (a : Array UInt8) (L : List ByteArray) (s : ByteArray) : hasN (⟨a⟩ :: L) s = (decide (s.toList = a.toList) || hasN L s) := by
  show (s.toList == (⟨a⟩ : ByteArray).toList || hasN L s) = _
  rw [ByteArray.toList_eq ⟨a⟩]
  have e : (s.toList == a.toList) = decide (s.toList = a.toList) := by
    rw [Bool.eq_iff_iff]
    simp
  exact congrArg (· || hasN L s) e

theorem ref_step {s : ByteArray} {a : Array UInt8} {l : List UInt8} {L : List ByteArray} {x : Option Bool} (h : a.toList = l) (hx : x = some (hasN L s)) :
    (if s.toList = l then some true else x) = some (hasN (⟨a⟩ :: L) s) := by
  subst h
  rw [has_cons, hx]
  by_cases h : s.toList = a.toList
  · rw [if_pos h, decide_eq_true h]
    rfl
  · rw [if_neg h, decide_eq_false h]
    rfl

theorem ref_one {s : ByteArray} {a : Array UInt8} {l : List UInt8} {L : List ByteArray} {x : Option Int} (h : a.toList = l) (hx : x = some (if hasN L s = true then 1 else 0)) :
    (if s.toList = l then some 1 else x) = some (if hasN (⟨a⟩ :: L) s = true then 1 else 0) := by
  subst h
  rw [has_cons, hx]
  by_cases h : s.toList = a.toList
  · rw [if_pos h, decide_eq_true h]
    rfl
  · rw [if_neg h, decide_eq_false h]
    rfl

theorem ref_join {s : ByteArray} {a : Array UInt8} {l : List UInt8} {L : List ByteArray} {J : Bool → Option Int} {x : Option Int} (h : a.toList = l) (hx : x = J (hasN L s)) :
    (if s.toList = l then J (s.toList == l) else x) = J (hasN (⟨a⟩ :: L) s) := by
  subst h
  rw [has_cons, hx]
  by_cases h : s.toList = a.toList
  · rw [if_pos h, decide_eq_true h, beq_iff_eq.mpr h]
    rfl
  · rw [if_neg h, decide_eq_false h]
    rfl

theorem ref_last {s : ByteArray} {a : Array UInt8} {l : List UInt8} {J : Bool → Option Int} (h : a.toList = l) : J (s.toList == l) = J (hasN [⟨a⟩] s) := by
  subst h
  rw [has_cons]
  show J (s.toList == a.toList) = J (decide (s.toList = a.toList) || false)
  rw [Bool.or_false]
  by_cases h : s.toList = a.toList
  · rw [decide_eq_true h, beq_iff_eq.mpr h]
  · rw [decide_eq_false h, beq_eq_false_iff_ne.mpr h]

theorem ref_hides (s : ByteArray) : flailref17_Hides.f s = some (hasN LH s) := by
  unfold flailref17_Hides.f LH
  repeat (refine ref_step rfl ?_)
  rfl
theorem ref_keeps (s : ByteArray) : flailref17_Keeps.f s = some (hasN LK s) := by
  unfold flailref17_Keeps.f LK
  repeat (refine ref_step rfl ?_)
  rfl
theorem ref_void (s : ByteArray) : flailref17_Void.f s = some (hasN LV s) := by
  unfold flailref17_Void.f LV
  repeat (refine ref_step rfl ?_)
  rfl

theorem any_app (A B : List ByteArray) (s : ByteArray) : hasN (A ++ B) s = (hasN A s || hasN B s) := List.any_append

theorem ref_ones (s : ByteArray) (k : Nat) (b : Bool) : flailref17_Lines.j0 (k + 1) s b = some (if b = true then 2 else if hasN (LA ++ LB) s = true then 1 else 0) := by
  cases b with
  | true =>
    simp only [flailref17_Lines.j0]
    rfl
  | false =>
    simp only [flailref17_Lines.j0, Bool.false_eq_true, if_false]
    unfold LA LB
    simp only [List.cons_append, List.nil_append]
    repeat (refine ref_one rfl ?_)
    rfl

theorem ref_lines (s : ByteArray) (k : Nat) : flailref17_Lines.f (k + 1) s = some (linesN s) := by
  have h : flailref17_Lines.f (k + 1) s = flailref17_Lines.j0 (k + 1) s (hasN L2 s) := by
    unfold flailref17_Lines.f L2
    repeat (refine ref_join (J := flailref17_Lines.j0 (k + 1) s) rfl ?_)
    exact ref_last (J := flailref17_Lines.j0 (k + 1) s) rfl
  rw [h, ref_ones, any_app]
  unfold linesN
  cases hasN L2 s <;> cases hasN LA s <;> cases hasN LB s <;> rfl

def LN : List ByteArray := [(⟨#[104, 101, 97, 100]⟩ : ByteArray), (⟨#[105, 102, 114, 97, 109, 101]⟩ : ByteArray), (⟨#[110, 111, 101, 109, 98, 101, 100]⟩ : ByteArray), (⟨#[110, 111, 102, 114, 97, 109, 101, 115]⟩ : ByteArray), (⟨#[110, 111, 115, 99, 114, 105, 112, 116]⟩ : ByteArray), (⟨#[115, 99, 114, 105, 112, 116]⟩ : ByteArray), (⟨#[115, 116, 121, 108, 101]⟩ : ByteArray), (⟨#[116, 101, 109, 112, 108, 97, 116, 101]⟩ : ByteArray), (⟨#[116, 105, 116, 108, 101]⟩ : ByteArray), (⟨#[108, 105, 115, 116, 105, 110, 103]⟩ : ByteArray), (⟨#[112, 108, 97, 105, 110, 116, 101, 120, 116]⟩ : ByteArray), (⟨#[112, 114, 101]⟩ : ByteArray), (⟨#[116, 101, 120, 116, 97, 114, 101, 97]⟩ : ByteArray), (⟨#[120, 109, 112]⟩ : ByteArray), (⟨#[97, 114, 101, 97]⟩ : ByteArray), (⟨#[98, 97, 115, 101]⟩ : ByteArray), (⟨#[98, 114]⟩ : ByteArray), (⟨#[99, 111, 108]⟩ : ByteArray), (⟨#[101, 109, 98, 101, 100]⟩ : ByteArray), (⟨#[104, 114]⟩ : ByteArray), (⟨#[105, 109, 103]⟩ : ByteArray), (⟨#[105, 110, 112, 117, 116]⟩ : ByteArray), (⟨#[108, 105, 110, 107]⟩ : ByteArray), (⟨#[109, 101, 116, 97]⟩ : ByteArray), (⟨#[115, 111, 117, 114, 99, 101]⟩ : ByteArray), (⟨#[116, 114, 97, 99, 107]⟩ : ByteArray), (⟨#[119, 98, 114]⟩ : ByteArray), (⟨#[98, 108, 111, 99, 107, 113, 117, 111, 116, 101]⟩ : ByteArray), (⟨#[104, 49]⟩ : ByteArray), (⟨#[104, 50]⟩ : ByteArray), (⟨#[104, 51]⟩ : ByteArray), (⟨#[104, 52]⟩ : ByteArray), (⟨#[104, 53]⟩ : ByteArray), (⟨#[104, 54]⟩ : ByteArray), (⟨#[111, 108]⟩ : ByteArray), (⟨#[112]⟩ : ByteArray), (⟨#[116, 97, 98, 108, 101]⟩ : ByteArray), (⟨#[117, 108]⟩ : ByteArray), (⟨#[97, 100, 100, 114, 101, 115, 115]⟩ : ByteArray), (⟨#[97, 114, 116, 105, 99, 108, 101]⟩ : ByteArray), (⟨#[97, 115, 105, 100, 101]⟩ : ByteArray), (⟨#[98, 111, 100, 121]⟩ : ByteArray), (⟨#[99, 101, 110, 116, 101, 114]⟩ : ByteArray), (⟨#[100, 100]⟩ : ByteArray), (⟨#[100, 101, 116, 97, 105, 108, 115]⟩ : ByteArray), (⟨#[100, 105, 97, 108, 111, 103]⟩ : ByteArray), (⟨#[100, 105, 114]⟩ : ByteArray), (⟨#[100, 105, 118]⟩ : ByteArray), (⟨#[100, 108]⟩ : ByteArray), (⟨#[100, 116]⟩ : ByteArray), (⟨#[102, 105, 101, 108, 100, 115, 101, 116]⟩ : ByteArray), (⟨#[102, 105, 103, 99, 97, 112, 116, 105, 111, 110]⟩ : ByteArray), (⟨#[102, 105, 103, 117, 114, 101]⟩ : ByteArray), (⟨#[102, 111, 111, 116, 101, 114]⟩ : ByteArray), (⟨#[102, 111, 114, 109]⟩ : ByteArray), (⟨#[104, 101, 97, 100, 101, 114]⟩ : ByteArray), (⟨#[104, 103, 114, 111, 117, 112]⟩ : ByteArray), (⟨#[104, 116, 109, 108]⟩ : ByteArray), (⟨#[108, 101, 103, 101, 110, 100]⟩ : ByteArray), (⟨#[108, 105]⟩ : ByteArray), (⟨#[109, 97, 105, 110]⟩ : ByteArray), (⟨#[109, 101, 110, 117]⟩ : ByteArray), (⟨#[110, 97, 118]⟩ : ByteArray), (⟨#[111, 112, 116, 105, 111, 110]⟩ : ByteArray), (⟨#[115, 101, 97, 114, 99, 104]⟩ : ByteArray), (⟨#[115, 101, 99, 116, 105, 111, 110]⟩ : ByteArray), (⟨#[115, 117, 109, 109, 97, 114, 121]⟩ : ByteArray), (⟨#[116, 114]⟩ : ByteArray), (⟨#[98]⟩ : ByteArray), (⟨#[97]⟩ : ByteArray), (⟨#[104, 55]⟩ : ByteArray), (⟨#[116, 100]⟩ : ByteArray), (⟨#[]⟩ : ByteArray), (⟨#[80]⟩ : ByteArray), (⟨#[113]⟩ : ByteArray), (⟨#[115, 112, 97, 110]⟩ : ByteArray), (⟨#[116, 104]⟩ : ByteArray), (⟨#[115, 118, 103]⟩ : ByteArray)]

/-- The index that a number picks, out of the names. -/
theorem picks (n : Int) (h0 : 0 ≤ n) (h1 : n ≤ 65535) : ∃ i : Nat, i < 78 ∧ Int.tmod (wrap64 n) ((LN.length : Nat) : Int) = (i : Int) := by
  have hw : wrap64 n = n := by
    unfold wrap64
    omega
  have hl : ((LN.length : Nat) : Int) = 78 := by decide
  refine ⟨(n % 78).toNat, by omega, ?_⟩
  rw [hw, hl, Int.tmod_eq_emod_of_nonneg h0]
  omega
theorem LN_len : ((LN.length : Nat) : Int) = 78 := by decide
theorem names_at : flailref17_Names.f = some LN := rfl
theorem of_u16 {n : Int} (h : (Lit.int .u16 n).wf = true) : 0 ≤ n ∧ n ≤ 65535 := by
  simp [Lit.wf, IntKind.min, IntKind.max, IntKind.signed, IntKind.bits] at h
  omega
theorem of_u8 {n : Int} (h : (Lit.int .u8 n).wf = true) : 0 ≤ n ∧ n ≤ 255 := by
  simp [Lit.wf, IntKind.min, IntKind.max, IntKind.signed, IntKind.bits] at h
  omega
theorem u16_bounds {n : Int} (h : (Lit.int .u16 n).wf = true) : 0 ≤ n ∧ n ≤ 65535 := by
  exact of_u16 h

theorem KindsEach : flaillaw17_KindsEach.Pure := by
  intro n hn
  obtain ⟨h0, h1⟩ := u16_bounds hn
  obtain ⟨i, hi, hm⟩ := picks n h0 h1
  refine ⟨102, ?_⟩
  unfold flaillaw17_KindsEach.f
  rw [awake_at 102 (by omega), names_at]
  simp only [Option.bind_some]
  rw [hm]
  generalize hs : rdOf ByteArray.empty LN (i : Int) = s
  have hl := LN_len
  rw [if_neg (by omega), if_pos (by omega), if_pos (by omega)]
  rw [hides_at s 102 (by omega), keeps_at s 102 (by omega), void_at s 102 (by omega), lines_at s 102 (by omega), ref_hides, ref_keeps, ref_void, ref_lines s 101]
  simp

end Go.Proofs.Ytccdjphflnghlaa.Pure
