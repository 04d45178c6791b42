/- What hides neither keeps, nor makes lines, nor is void: the walk of the law's function, by hand, over the printed contracts. -/
import Derived.Test.YtccdjphflnghlaaPKindsApartx1
namespace Go.Proofs.Ytccdjphflnghlaa.HandKindsApart
open Go.RowKit Go.Proofs.Ytccdjphflnghlaa.PKindsApart Go.Proofs.YtccdjphflnghlaaW.PrintWords Go.Proofs.YtccdjphflnghlaaW.PrintLast Go.Proofs.YtccdjphflnghlaaW.PrintMore
set_option linter.unusedVariables false

theorem wrap_up {i n : Nat} (h : i < n) (hn : n ≤ 1000) : wrap64 ((i : Int) + 1) = ((i + 1 : Nat) : Int) := by
  unfold wrap64
  omega

/-- Is a text one of some? -/
def hasN (L : List ByteArray) (s : ByteArray) : Bool := L.any (fun x => s.toList == x.toList)

theorem index_l0 (xs : List ByteArray) (s : ByteArray) (hn : xs.length ≤ 1000) (d : Nat) : ∀ (k i : Nat), xs.length - i = d → i ≤ xs.length → d < k →
    ∃ r, slices_Index_string_string.l0 k xs s (xs.length : Int) (i : Int) = some r ∧ decide (r ≥ 0) = hasN (xs.drop i) s := by
  induction d with
  | zero =>
    intro k i hd hi hk
    obtain ⟨k, rfl⟩ : ∃ m, k = m + 1 := ⟨k - 1, by omega⟩
    obtain rfl : i = xs.length := by omega
    refine ⟨-1, ?_, ?_⟩
    · simp only [slices_Index_string_string.l0]
      rw [if_neg (by omega)]
    · simp [hasN]
  | succ d ih =>
    intro k i hd hi hk
    obtain ⟨k, rfl⟩ : ∃ m, k = m + 1 := ⟨k - 1, by omega⟩
    have hlt : i < xs.length := by omega
    have hdrop : xs.drop i = xs[i] :: xs.drop (i + 1) := by simp
    have hrd : rdOf ByteArray.empty xs (i : Int) = xs[i] := by simp [rdOf, hlt]
    by_cases hc : s.toList = xs[i].toList
    · refine ⟨i, ?_, ?_⟩
      · simp only [slices_Index_string_string.l0]
        rw [if_pos (by omega), if_pos (by omega), if_pos (by omega), hrd, if_pos hc]
      · rw [hdrop]
        show decide ((i : Int) ≥ 0) = (s.toList == xs[i].toList || hasN (xs.drop (i + 1)) s)
        rw [beq_iff_eq.mpr hc, Bool.true_or]
        exact decide_eq_true (by omega)
    · obtain ⟨r, hr, hb⟩ := ih k (i + 1) (by omega) (by omega) (by omega)
      refine ⟨r, ?_, ?_⟩
      · simp only [slices_Index_string_string.l0]
        rw [if_pos (by omega), if_pos (by omega), if_pos (by omega), hrd, if_neg hc, wrap_up hlt hn]
        exact hr
      · rw [hb, hdrop]
        have hc' : (s.toList == xs[i].toList) = false := beq_eq_false_iff_ne.mpr hc
        show hasN (xs.drop (i + 1)) s = (s.toList == xs[i].toList || hasN (xs.drop (i + 1)) s)
        rw [hc', Bool.false_or]

theorem one_at (L : List ByteArray) (s : ByteArray) (k : Nat) (hn : L.length ≤ 1000) (hk : L.length < k) : kinds_one.f k s L = some (hasN L s) := by
  obtain ⟨r, hr, hb⟩ := index_l0 L s hn L.length k 0 (by omega) (by omega) hk
  unfold kinds_one.f slices_Contains_string_string.f slices_Index_string_string.f
  have hr' : slices_Index_string_string.l0 k L s (L.length : Int) 0 = some r := hr
  rw [hr']
  simp only [Option.bind_some]
  rw [hb, List.drop_zero]

def LH : List ByteArray := [(⟨#[104, 101, 97, 100]⟩ : ByteArray), (⟨#[105, 102, 114, 97, 109, 101]⟩ : ByteArray), (⟨#[110, 111, 101, 109, 98, 101, 100]⟩ : ByteArray), (⟨#[110, 111, 102, 114, 97, 109, 101, 115]⟩ : ByteArray), (⟨#[110, 111, 115, 99, 114, 105, 112, 116]⟩ : ByteArray), (⟨#[115, 99, 114, 105, 112, 116]⟩ : ByteArray), (⟨#[115, 116, 121, 108, 101]⟩ : ByteArray), (⟨#[116, 101, 109, 112, 108, 97, 116, 101]⟩ : ByteArray), (⟨#[116, 105, 116, 108, 101]⟩ : ByteArray)]
def LK : List ByteArray := [(⟨#[108, 105, 115, 116, 105, 110, 103]⟩ : ByteArray), (⟨#[112, 108, 97, 105, 110, 116, 101, 120, 116]⟩ : ByteArray), (⟨#[112, 114, 101]⟩ : ByteArray), (⟨#[116, 101, 120, 116, 97, 114, 101, 97]⟩ : ByteArray), (⟨#[120, 109, 112]⟩ : ByteArray)]
def L2 : List ByteArray := [(⟨#[98, 108, 111, 99, 107, 113, 117, 111, 116, 101]⟩ : ByteArray), (⟨#[104, 49]⟩ : ByteArray), (⟨#[104, 50]⟩ : ByteArray), (⟨#[104, 51]⟩ : ByteArray), (⟨#[104, 52]⟩ : ByteArray), (⟨#[104, 53]⟩ : ByteArray), (⟨#[104, 54]⟩ : ByteArray), (⟨#[108, 105, 115, 116, 105, 110, 103]⟩ : ByteArray), (⟨#[111, 108]⟩ : ByteArray), (⟨#[112]⟩ : ByteArray), (⟨#[112, 108, 97, 105, 110, 116, 101, 120, 116]⟩ : ByteArray), (⟨#[112, 114, 101]⟩ : ByteArray), (⟨#[116, 97, 98, 108, 101]⟩ : ByteArray), (⟨#[117, 108]⟩ : ByteArray), (⟨#[120, 109, 112]⟩ : ByteArray)]
def LA : List ByteArray := [(⟨#[97, 100, 100, 114, 101, 115, 115]⟩ : ByteArray), (⟨#[97, 114, 116, 105, 99, 108, 101]⟩ : ByteArray), (⟨#[97, 115, 105, 100, 101]⟩ : ByteArray), (⟨#[98, 111, 100, 121]⟩ : ByteArray), (⟨#[99, 101, 110, 116, 101, 114]⟩ : ByteArray), (⟨#[100, 100]⟩ : ByteArray), (⟨#[100, 101, 116, 97, 105, 108, 115]⟩ : ByteArray), (⟨#[100, 105, 97, 108, 111, 103]⟩ : ByteArray), (⟨#[100, 105, 114]⟩ : ByteArray), (⟨#[100, 105, 118]⟩ : ByteArray), (⟨#[100, 108]⟩ : ByteArray), (⟨#[100, 116]⟩ : ByteArray), (⟨#[102, 105, 101, 108, 100, 115, 101, 116]⟩ : ByteArray), (⟨#[102, 105, 103, 99, 97, 112, 116, 105, 111, 110]⟩ : ByteArray), (⟨#[102, 105, 103, 117, 114, 101]⟩ : ByteArray), (⟨#[102, 111, 111, 116, 101, 114]⟩ : ByteArray), (⟨#[102, 111, 114, 109]⟩ : ByteArray)]
def LB : List ByteArray := [(⟨#[104, 101, 97, 100, 101, 114]⟩ : ByteArray), (⟨#[104, 103, 114, 111, 117, 112]⟩ : ByteArray), (⟨#[104, 114]⟩ : ByteArray), (⟨#[104, 116, 109, 108]⟩ : ByteArray), (⟨#[108, 101, 103, 101, 110, 100]⟩ : ByteArray), (⟨#[108, 105]⟩ : ByteArray), (⟨#[109, 97, 105, 110]⟩ : ByteArray), (⟨#[109, 101, 110, 117]⟩ : ByteArray), (⟨#[110, 97, 118]⟩ : ByteArray), (⟨#[111, 112, 116, 105, 111, 110]⟩ : ByteArray), (⟨#[115, 101, 97, 114, 99, 104]⟩ : ByteArray), (⟨#[115, 101, 99, 116, 105, 111, 110]⟩ : ByteArray), (⟨#[115, 117, 109, 109, 97, 114, 121]⟩ : ByteArray), (⟨#[116, 114]⟩ : ByteArray)]
def LV : List ByteArray := [(⟨#[97, 114, 101, 97]⟩ : ByteArray), (⟨#[98, 97, 115, 101]⟩ : ByteArray), (⟨#[98, 114]⟩ : ByteArray), (⟨#[99, 111, 108]⟩ : ByteArray), (⟨#[101, 109, 98, 101, 100]⟩ : ByteArray), (⟨#[104, 114]⟩ : ByteArray), (⟨#[105, 109, 103]⟩ : ByteArray), (⟨#[105, 110, 112, 117, 116]⟩ : ByteArray), (⟨#[108, 105, 110, 107]⟩ : ByteArray), (⟨#[109, 101, 116, 97]⟩ : ByteArray), (⟨#[115, 111, 117, 114, 99, 101]⟩ : ByteArray), (⟨#[116, 114, 97, 99, 107]⟩ : ByteArray), (⟨#[119, 98, 114]⟩ : ByteArray)]

/-- How many ends of lines. -/
def linesN (s : ByteArray) : Int := if hasN L2 s = true then 2 else if hasN LA s = true then 1 else if hasN LB s = true then 1 else 0

theorem hides_at (s : ByteArray) (k : Nat) (hk : 100 < k) : kinds_Hides.f k s = some (hasN LH s) := by
  have h := one_at LH s k (by decide) (Nat.lt_of_le_of_lt (by decide) hk)
  unfold kinds_Hides.f
  unfold LH at *
  rw [h]
  rfl
theorem keeps_at (s : ByteArray) (k : Nat) (hk : 100 < k) : kinds_Keeps.f k s = some (hasN LK s) := by
  have h := one_at LK s k (by decide) (Nat.lt_of_le_of_lt (by decide) hk)
  unfold kinds_Keeps.f
  unfold LK at *
  rw [h]
  rfl
theorem void_at (s : ByteArray) (k : Nat) (hk : 100 < k) : kinds_Void.f k s = some (hasN LV s) := by
  have h := one_at LV s k (by decide) (Nat.lt_of_le_of_lt (by decide) hk)
  unfold kinds_Void.f
  unfold LV at *
  rw [h]
  rfl
theorem lines_at (s : ByteArray) (k : Nat) (hk : 100 < k) : kinds_Lines.f k s = some (linesN s) := by
  have h2 := one_at L2 s k (by decide) (Nat.lt_of_le_of_lt (by decide) hk)
  have ha := one_at LA s k (by decide) (Nat.lt_of_le_of_lt (by decide) hk)
  have hb := one_at LB s k (by decide) (Nat.lt_of_le_of_lt (by decide) hk)
  unfold kinds_Lines.f linesN
  unfold L2 LA LB at *
  rw [h2, ha, hb]
  simp only [Option.bind_some]
  split
  · rfl
  · split
    · rfl
    · split <;> rfl

theorem has_data (L : List ByteArray) (s : ByteArray) : hasN L s = L.any (fun x => s.data.toList == x.data.toList) := by
  unfold hasN
  simp only [ByteArray.toList_eq]

theorem awake_at (k : Nat) (hk : 101 < k) : flaillaw17_awake.f k = some true := by
  unfold flaillaw17_awake.f
  rw [lines_at _ k (by omega), lines_at _ k (by omega), lines_at _ k (by omega), hides_at _ k (by omega), keeps_at _ k (by omega), void_at _ k (by omega)]
  simp only [Option.bind_some, linesN, has_data]
  decide +kernel

/-- A byte that may stand in one of the names: a small letter, or a digit from 1 to 6. -/
def okB (c : UInt8) : Bool := (decide (97 ≤ c) && decide (c ≤ 122)) || (decide (49 ≤ c) && decide (c ≤ 54))

theorem none_of {L : List ByteArray} (hL : L.all (fun x => x.data.toList.all okB) = true) {s : ByteArray} {c : UInt8} (hc : c ∈ s.data.toList) (ho : okB c = false) : hasN L s = false := by
  rw [has_data, List.any_eq_false]
  intro x hx he
  have h1 := List.all_eq_true.mp hL x hx
  have he' : s.data.toList = x.data.toList := eq_of_beq he
  rw [he'] at hc
  have h2 := List.all_eq_true.mp h1 c hc
  rw [ho] at h2
  exact absurd h2 (by decide)

theorem hides_no {s : ByteArray} {c : UInt8} (hc : c ∈ s.data.toList) (ho : okB c = false) : hasN LH s = false := none_of (by decide +kernel) hc ho
theorem keeps_no {s : ByteArray} {c : UInt8} (hc : c ∈ s.data.toList) (ho : okB c = false) : hasN LK s = false := none_of (by decide +kernel) hc ho
theorem void_no {s : ByteArray} {c : UInt8} (hc : c ∈ s.data.toList) (ho : okB c = false) : hasN LV s = false := none_of (by decide +kernel) hc ho
theorem lines_no {s : ByteArray} {c : UInt8} (hc : c ∈ s.data.toList) (ho : okB c = false) : linesN s = 0 := by
  have h2 : hasN L2 s = false := none_of (by decide +kernel) hc ho
  have ha : hasN LA s = false := none_of (by decide +kernel) hc ho
  have hb : hasN LB s = false := none_of (by decide +kernel) hc ho
  unfold linesN
  rw [h2, ha, hb]
  rfl

theorem hides_each {s : ByteArray} (h : hasN LH s = true) : hasN LK s = false ∧ hasN LV s = false ∧ linesN s = 0 := by
  have hall : LH.all (fun x => !hasN LK x && !hasN LV x && decide (linesN x = 0)) = true := by
    simp only [linesN, has_data]
    decide +kernel
  obtain ⟨x, hx, he⟩ := List.any_eq_true.mp h
  have he' : s.toList = x.toList := eq_of_beq he
  have h3 := List.all_eq_true.mp hall x hx
  have hk : ∀ L, hasN L s = hasN L x := by
    intro L
    unfold hasN
    rw [he']
  unfold linesN at *
  simp only [hk]
  simpa [and_assoc] using h3

theorem void_each {s : ByteArray} (h : hasN LV s = true) : hasN LK s = false := by
  have hall : LV.all (fun x => !hasN LK x) = true := by
    simp only [has_data]
    decide +kernel
  obtain ⟨x, hx, he⟩ := List.any_eq_true.mp h
  have he' : s.toList = x.toList := eq_of_beq he
  have h3 := List.all_eq_true.mp hall x hx
  unfold hasN at *
  rw [he']
  simpa using h3

theorem lines_span (s : ByteArray) : 0 ≤ linesN s ∧ linesN s ≤ 2 := by
  unfold linesN
  split
  · omega
  · split
    · omega
    · split <;> omega


theorem cA (w : World) : Calls Try.prog 8 #[] w fun e w' => e = .returned (.bool true) ∧ Below w.heap.size w w' := flaillaw17_awake.calls 102 true w (awake_at 102 (by omega))
theorem cH {s : ByteArray} {b : Bool} (h : Aside0 (hasN LH s = b)) (w : World) : Calls Try.prog 9 #[.string s] w fun e w' => e = .returned (.bool b) ∧ Below w.heap.size w w' := kinds_Hides.calls 102 s b w (by rw [hides_at s 102 (by omega), h.out])
theorem cK {s : ByteArray} {b : Bool} (h : Aside0 (hasN LK s = b)) (w : World) : Calls Try.prog 11 #[.string s] w fun e w' => e = .returned (.bool b) ∧ Below w.heap.size w w' := kinds_Keeps.calls 102 s b w (by rw [keeps_at s 102 (by omega), h.out])
theorem cL {s : ByteArray} {b : Int} (h : Aside0 (linesN s = b)) (w : World) : Calls Try.prog 13 #[.string s] w fun e w' => e = .returned (.int .i64 b) ∧ Below w.heap.size w w' := kinds_Lines.calls 102 s b w (by rw [lines_at s 102 (by omega), h.out])
theorem cV {s : ByteArray} {b : Bool} (h : Aside0 (hasN LV s = b)) (w : World) : Calls Try.prog 15 #[.string s] w fun e w' => e = .returned (.bool b) ∧ Below w.heap.size w w' := kinds_Void.calls 102 s b w (by rw [void_at s 102 (by omega), h.out])

set_option maxHeartbeats 2000000 in
set_option maxRecDepth 100000 in
theorem apart_hides (s : ByteArray) (w : World) (hz : s.size ≤ 60) (ho : Aside0 (hasN LH (s ++ (⟨#[32, 120]⟩ : ByteArray)) = false)) (ko : Aside0 (hasN LK (s ++ (⟨#[32, 120]⟩ : ByteArray)) = false)) (lo : Aside0 (linesN (s ++ (⟨#[32, 120]⟩ : ByteArray)) = 0)) (vo : Aside0 (hasN LV (s ++ (⟨#[32, 120]⟩ : ByteArray)) = false)) (hs : Aside0 (hasN LH s = true)) (ks : Aside0 (hasN LK s = false)) (vs : Aside0 (hasN LV s = false)) (ls : Aside0 (linesN s = 0)) :
    Calls Try.prog 5 #[.string s] w fun e w' => e = .returned (.bool true) ∧ Below w.heap.size w w' := by
  have HB := Aside0.mk (Below.refl w.heap.size w)
  have c3b0 : decide (60 < (s.size : Int)) = false := decide_eq_false (by omega)
  have c3b1 : decide (60 < s.size) = false := decide_eq_false (by omega)
  have c5b0 : (s.size + 2 ≤ 9223372036854775807) = True := eq_true (by omega)
  have c5b1 : decide (s.size + 2 ≤ 9223372036854775807) = true := decide_eq_true (by omega)
  have c5b2 : (9223372036854775807 < s.size + 2) = False := eq_false (by omega)
  clear hz
  go_enter Try.func5, Try.ntmps5
  go_wp2_with (first | (go_at_call 8; (with_reducible refine (cA _).mono ?_); rintro e w1 ⟨rfl, hb⟩; have n0_ := Aside0.mk (below_step (by repeat (first | (with_reducible first | exact HB.out | apply below_alloc | apply pw_below_drewN | apply below_drew1) | exact HB.out)) hb); clear HB; have HB := n0_; clear n0_; (try clear hb)) | (go_at_call 9; (with_reducible refine (cH ho _).mono ?_); rintro e w1 ⟨rfl, hb⟩; have n0_ := Aside0.mk (below_step (by repeat (first | (with_reducible first | exact HB.out | apply below_alloc | apply pw_below_drewN | apply below_drew1) | exact HB.out)) hb); clear HB; have HB := n0_; clear n0_; (try clear hb)) | (go_at_call 11; (with_reducible refine (cK ko _).mono ?_); rintro e w1 ⟨rfl, hb⟩; have n0_ := Aside0.mk (below_step (by repeat (first | (with_reducible first | exact HB.out | apply below_alloc | apply pw_below_drewN | apply below_drew1) | exact HB.out)) hb); clear HB; have HB := n0_; clear n0_; (try clear hb)) | (go_at_call 13; (with_reducible refine (cL lo _).mono ?_); rintro e w1 ⟨rfl, hb⟩; have n0_ := Aside0.mk (below_step (by repeat (first | (with_reducible first | exact HB.out | apply below_alloc | apply pw_below_drewN | apply below_drew1) | exact HB.out)) hb); clear HB; have HB := n0_; clear n0_; (try clear hb)) | (go_at_call 15; (with_reducible refine (cV vo _).mono ?_); rintro e w1 ⟨rfl, hb⟩; have n0_ := Aside0.mk (below_step (by repeat (first | (with_reducible first | exact HB.out | apply below_alloc | apply pw_below_drewN | apply below_drew1) | exact HB.out)) hb); clear HB; have HB := n0_; clear n0_; (try clear hb)) | (go_at_call 9; (with_reducible refine (cH hs _).mono ?_); rintro e w1 ⟨rfl, hb⟩; have n0_ := Aside0.mk (below_step (by repeat (first | (with_reducible first | exact HB.out | apply below_alloc | apply pw_below_drewN | apply below_drew1) | exact HB.out)) hb); clear HB; have HB := n0_; clear n0_; (try clear hb)) | (go_at_call 11; (with_reducible refine (cK ks _).mono ?_); rintro e w1 ⟨rfl, hb⟩; have n0_ := Aside0.mk (below_step (by repeat (first | (with_reducible first | exact HB.out | apply below_alloc | apply pw_below_drewN | apply below_drew1) | exact HB.out)) hb); clear HB; have HB := n0_; clear n0_; (try clear hb)) | (go_at_call 13; (with_reducible refine (cL ls _).mono ?_); rintro e w1 ⟨rfl, hb⟩; have n0_ := Aside0.mk (below_step (by repeat (first | (with_reducible first | exact HB.out | apply below_alloc | apply pw_below_drewN | apply below_drew1) | exact HB.out)) hb); clear HB; have HB := n0_; clear n0_; (try clear hb)) | (go_at_call 15; (with_reducible refine (cV vs _).mono ?_); rintro e w1 ⟨rfl, hb⟩; have n0_ := Aside0.mk (below_step (by repeat (first | (with_reducible first | exact HB.out | apply below_alloc | apply pw_below_drewN | apply below_drew1) | exact HB.out)) hb); clear HB; have HB := n0_; clear n0_; (try clear hb)))
  go_ret
  exact ⟨rfl, by repeat (first | (with_reducible first | exact HB.out | apply below_alloc | apply pw_below_drewN | apply below_drew1) | exact HB.out)⟩

set_option maxHeartbeats 2000000 in
set_option maxRecDepth 100000 in
theorem apart_void (s : ByteArray) (w : World) (hz : s.size ≤ 60) (ho : Aside0 (hasN LH (s ++ (⟨#[32, 120]⟩ : ByteArray)) = false)) (ko : Aside0 (hasN LK (s ++ (⟨#[32, 120]⟩ : ByteArray)) = false)) (lo : Aside0 (linesN (s ++ (⟨#[32, 120]⟩ : ByteArray)) = 0)) (vo : Aside0 (hasN LV (s ++ (⟨#[32, 120]⟩ : ByteArray)) = false)) (hs : Aside0 (hasN LH s = false)) (ks : Aside0 (hasN LK s = false)) (vs : Aside0 (hasN LV s = true)) (n : Int) (p0 : 0 ≤ n) (p1 : n ≤ 2) (ls : Aside0 (linesN s = n)) :
    Calls Try.prog 5 #[.string s] w fun e w' => e = .returned (.bool true) ∧ Below w.heap.size w w' := by
  have HB := Aside0.mk (Below.refl w.heap.size w)
  have c3b0 : decide (60 < (s.size : Int)) = false := decide_eq_false (by omega)
  have c3b1 : decide (60 < s.size) = false := decide_eq_false (by omega)
  have c5b0 : (s.size + 2 ≤ 9223372036854775807) = True := eq_true (by omega)
  have c5b1 : decide (s.size + 2 ≤ 9223372036854775807) = true := decide_eq_true (by omega)
  have c5b2 : (9223372036854775807 < s.size + 2) = False := eq_false (by omega)
  clear hz
  go_enter Try.func5, Try.ntmps5
  go_wp2_with (first | (go_at_call 8; (with_reducible refine (cA _).mono ?_); rintro e w1 ⟨rfl, hb⟩; have n0_ := Aside0.mk (below_step (by repeat (first | (with_reducible first | exact HB.out | apply below_alloc | apply pw_below_drewN | apply below_drew1) | exact HB.out)) hb); clear HB; have HB := n0_; clear n0_; (try clear hb)) | (go_at_call 9; (with_reducible refine (cH ho _).mono ?_); rintro e w1 ⟨rfl, hb⟩; have n0_ := Aside0.mk (below_step (by repeat (first | (with_reducible first | exact HB.out | apply below_alloc | apply pw_below_drewN | apply below_drew1) | exact HB.out)) hb); clear HB; have HB := n0_; clear n0_; (try clear hb)) | (go_at_call 11; (with_reducible refine (cK ko _).mono ?_); rintro e w1 ⟨rfl, hb⟩; have n0_ := Aside0.mk (below_step (by repeat (first | (with_reducible first | exact HB.out | apply below_alloc | apply pw_below_drewN | apply below_drew1) | exact HB.out)) hb); clear HB; have HB := n0_; clear n0_; (try clear hb)) | (go_at_call 13; (with_reducible refine (cL lo _).mono ?_); rintro e w1 ⟨rfl, hb⟩; have n0_ := Aside0.mk (below_step (by repeat (first | (with_reducible first | exact HB.out | apply below_alloc | apply pw_below_drewN | apply below_drew1) | exact HB.out)) hb); clear HB; have HB := n0_; clear n0_; (try clear hb)) | (go_at_call 15; (with_reducible refine (cV vo _).mono ?_); rintro e w1 ⟨rfl, hb⟩; have n0_ := Aside0.mk (below_step (by repeat (first | (with_reducible first | exact HB.out | apply below_alloc | apply pw_below_drewN | apply below_drew1) | exact HB.out)) hb); clear HB; have HB := n0_; clear n0_; (try clear hb)) | (go_at_call 9; (with_reducible refine (cH hs _).mono ?_); rintro e w1 ⟨rfl, hb⟩; have n0_ := Aside0.mk (below_step (by repeat (first | (with_reducible first | exact HB.out | apply below_alloc | apply pw_below_drewN | apply below_drew1) | exact HB.out)) hb); clear HB; have HB := n0_; clear n0_; (try clear hb)) | (go_at_call 11; (with_reducible refine (cK ks _).mono ?_); rintro e w1 ⟨rfl, hb⟩; have n0_ := Aside0.mk (below_step (by repeat (first | (with_reducible first | exact HB.out | apply below_alloc | apply pw_below_drewN | apply below_drew1) | exact HB.out)) hb); clear HB; have HB := n0_; clear n0_; (try clear hb)) | (go_at_call 13; (with_reducible refine (cL ls _).mono ?_); rintro e w1 ⟨rfl, hb⟩; have n0_ := Aside0.mk (below_step (by repeat (first | (with_reducible first | exact HB.out | apply below_alloc | apply pw_below_drewN | apply below_drew1) | exact HB.out)) hb); clear HB; have HB := n0_; clear n0_; (try clear hb)) | (go_at_call 15; (with_reducible refine (cV vs _).mono ?_); rintro e w1 ⟨rfl, hb⟩; have n0_ := Aside0.mk (below_step (by repeat (first | (with_reducible first | exact HB.out | apply below_alloc | apply pw_below_drewN | apply below_drew1) | exact HB.out)) hb); clear HB; have HB := n0_; clear n0_; (try clear hb)))
  go_ret
  exact ⟨rfl, by repeat (first | (with_reducible first | exact HB.out | apply below_alloc | apply pw_below_drewN | apply below_drew1) | exact HB.out)⟩

set_option maxHeartbeats 2000000 in
set_option maxRecDepth 100000 in
theorem apart_plain (s : ByteArray) (w : World) (hz : s.size ≤ 60) (ho : Aside0 (hasN LH (s ++ (⟨#[32, 120]⟩ : ByteArray)) = false)) (ko : Aside0 (hasN LK (s ++ (⟨#[32, 120]⟩ : ByteArray)) = false)) (lo : Aside0 (linesN (s ++ (⟨#[32, 120]⟩ : ByteArray)) = 0)) (vo : Aside0 (hasN LV (s ++ (⟨#[32, 120]⟩ : ByteArray)) = false)) (hs : Aside0 (hasN LH s = false)) (vs : Aside0 (hasN LV s = false)) (n : Int) (p0 : 0 ≤ n) (p1 : n ≤ 2) (ls : Aside0 (linesN s = n)) :
    Calls Try.prog 5 #[.string s] w fun e w' => e = .returned (.bool true) ∧ Below w.heap.size w w' := by
  have HB := Aside0.mk (Below.refl w.heap.size w)
  have c3b0 : decide (60 < (s.size : Int)) = false := decide_eq_false (by omega)
  have c3b1 : decide (60 < s.size) = false := decide_eq_false (by omega)
  have c5b0 : (s.size + 2 ≤ 9223372036854775807) = True := eq_true (by omega)
  have c5b1 : decide (s.size + 2 ≤ 9223372036854775807) = true := decide_eq_true (by omega)
  have c5b2 : (9223372036854775807 < s.size + 2) = False := eq_false (by omega)
  clear hz
  go_enter Try.func5, Try.ntmps5
  go_wp2_with (first | (go_at_call 8; (with_reducible refine (cA _).mono ?_); rintro e w1 ⟨rfl, hb⟩; have n0_ := Aside0.mk (below_step (by repeat (first | (with_reducible first | exact HB.out | apply below_alloc | apply pw_below_drewN | apply below_drew1) | exact HB.out)) hb); clear HB; have HB := n0_; clear n0_; (try clear hb)) | (go_at_call 9; (with_reducible refine (cH ho _).mono ?_); rintro e w1 ⟨rfl, hb⟩; have n0_ := Aside0.mk (below_step (by repeat (first | (with_reducible first | exact HB.out | apply below_alloc | apply pw_below_drewN | apply below_drew1) | exact HB.out)) hb); clear HB; have HB := n0_; clear n0_; (try clear hb)) | (go_at_call 11; (with_reducible refine (cK ko _).mono ?_); rintro e w1 ⟨rfl, hb⟩; have n0_ := Aside0.mk (below_step (by repeat (first | (with_reducible first | exact HB.out | apply below_alloc | apply pw_below_drewN | apply below_drew1) | exact HB.out)) hb); clear HB; have HB := n0_; clear n0_; (try clear hb)) | (go_at_call 13; (with_reducible refine (cL lo _).mono ?_); rintro e w1 ⟨rfl, hb⟩; have n0_ := Aside0.mk (below_step (by repeat (first | (with_reducible first | exact HB.out | apply below_alloc | apply pw_below_drewN | apply below_drew1) | exact HB.out)) hb); clear HB; have HB := n0_; clear n0_; (try clear hb)) | (go_at_call 15; (with_reducible refine (cV vo _).mono ?_); rintro e w1 ⟨rfl, hb⟩; have n0_ := Aside0.mk (below_step (by repeat (first | (with_reducible first | exact HB.out | apply below_alloc | apply pw_below_drewN | apply below_drew1) | exact HB.out)) hb); clear HB; have HB := n0_; clear n0_; (try clear hb)) | (go_at_call 9; (with_reducible refine (cH hs _).mono ?_); rintro e w1 ⟨rfl, hb⟩; have n0_ := Aside0.mk (below_step (by repeat (first | (with_reducible first | exact HB.out | apply below_alloc | apply pw_below_drewN | apply below_drew1) | exact HB.out)) hb); clear HB; have HB := n0_; clear n0_; (try clear hb)) | (go_at_call 13; (with_reducible refine (cL ls _).mono ?_); rintro e w1 ⟨rfl, hb⟩; have n0_ := Aside0.mk (below_step (by repeat (first | (with_reducible first | exact HB.out | apply below_alloc | apply pw_below_drewN | apply below_drew1) | exact HB.out)) hb); clear HB; have HB := n0_; clear n0_; (try clear hb)) | (go_at_call 15; (with_reducible refine (cV vs _).mono ?_); rintro e w1 ⟨rfl, hb⟩; have n0_ := Aside0.mk (below_step (by repeat (first | (with_reducible first | exact HB.out | apply below_alloc | apply pw_below_drewN | apply below_drew1) | exact HB.out)) hb); clear HB; have HB := n0_; clear n0_; (try clear hb)))
  go_ret
  exact ⟨rfl, by repeat (first | (with_reducible first | exact HB.out | apply below_alloc | apply pw_below_drewN | apply below_drew1) | exact HB.out)⟩

set_option maxHeartbeats 2000000 in
set_option maxRecDepth 100000 in
theorem apart_long (s : ByteArray) (w : World) (hz : 60 < s.size) :
    Calls Try.prog 5 #[.string s] w fun e w' => e = .returned (.bool true) ∧ Below w.heap.size w w' := by
  have HB := Aside0.mk (Below.refl w.heap.size w)
  have c3b0 : decide (60 < (s.size : Int)) = true := decide_eq_true (by omega)
  have c3b1 : decide (60 < s.size) = true := decide_eq_true (by omega)
  clear hz
  go_enter Try.func5, Try.ntmps5
  go_wp2_with (first | (go_at_call 8; (with_reducible refine (cA _).mono ?_); rintro e w1 ⟨rfl, hb⟩; have n0_ := Aside0.mk (below_step (by repeat (first | (with_reducible first | exact HB.out | apply below_alloc | apply pw_below_drewN | apply below_drew1) | exact HB.out)) hb); clear HB; have HB := n0_; clear n0_; (try clear hb)))
  go_ret
  exact ⟨rfl, by repeat (first | (with_reducible first | exact HB.out | apply below_alloc | apply pw_below_drewN | apply below_drew1) | exact HB.out)⟩

theorem apart_any (s : ByteArray) (w : World) : Calls Try.prog 5 #[.string s] w fun e w' => e = .returned (.bool true) ∧ Below w.heap.size w w' := by
  by_cases hz : s.size ≤ 60
  · have hc : (32 : UInt8) ∈ (s ++ (⟨#[32, 120]⟩ : ByteArray)).data.toList := by
      rw [ByteArray.data_append]
      simp
    have ho : okB 32 = false := by decide
    have h1 := Aside0.mk (hides_no hc ho)
    have h2 := Aside0.mk (keeps_no hc ho)
    have h3 := Aside0.mk (lines_no hc ho)
    have h4 := Aside0.mk (void_no hc ho)
    cases hh : hasN LH s with
    | true =>
      obtain ⟨hk, hv, hl⟩ := hides_each hh
      exact apart_hides s w hz h1 h2 h3 h4 ⟨hh⟩ ⟨hk⟩ ⟨hv⟩ ⟨hl⟩
    | false =>
      obtain ⟨p0, p1⟩ := lines_span s
      cases hv : hasN LV s with
      | true => exact apart_void s w hz h1 h2 h3 h4 ⟨hh⟩ ⟨void_each hv⟩ ⟨hv⟩ _ p0 p1 ⟨rfl⟩
      | false => exact apart_plain s w hz h1 h2 h3 h4 ⟨hh⟩ ⟨hv⟩ _ p0 p1 ⟨rfl⟩
  · exact apart_long s w (by omega)

end Go.Proofs.Ytccdjphflnghlaa.HandKindsApart
