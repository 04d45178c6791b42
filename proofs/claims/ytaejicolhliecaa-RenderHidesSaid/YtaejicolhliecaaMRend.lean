/- Several texts of this claim, laid together into one file. -/
import Derived.Test.YtaejicolhliecaaMPage
import Derived.LoopTactic
import Derived.Deep.LoopGhost
import Derived.Lib.SliceRun
import Derived.Laws.OwnMore
import Derived.Test.YtaejicolhliecaaMPage3
import Derived.Deep.RegionHeld3
import Derived.Deep.AppendLies
import Derived.Deep.RegionLaw
import Derived.RangeFuncNested
import Derived.RangeFuncBound
import Derived.RangeFuncCalls
import Derived.RangeFuncLeaves
import Derived.RangeFuncBox
import Derived.Shelf.Abstract
import Derived.Shelf.RegionOpen
import Derived.WalkKit
import Derived.OwnWalkIn
import Derived.TacticsInMore
import Derived.LoopNIn
import Derived.LoopIn
set_option linter.unusedSimpArgs false
set_option linter.unusedVariables false
/- slices.DeleteFunc and slices.IndexFunc over a row of names, at the test that a page's start hands on (is it head?): what is left of the row. -/
set_option linter.unusedVariables false
set_option linter.unusedSimpArgs false
namespace Go.Proofs.Ytaejicolhliecaa.Rend
open Go.RowKit Go.Lib Go.Proofs.Ytaejicolhliecaa.Buf Go.Proofs.Ytaejicolhliecaa.Flow Go.Proofs.Ytaejicolhliecaa.PRe

def isHead (x : ByteArray) : Bool := x.toList == tHead
/-- The first place of a head. -/
def idxH : List ByteArray → Int
  | [] => -1
  | x :: l => if isHead x = true then 0 else if idxH l < 0 then -1 else idxH l + 1
theorem idxH_spec : ∀ l : List ByteArray, (idxH l = -1 ∧ ∀ x ∈ l, isHead x = false) ∨ ∃ i, ∃ h : i < l.length, idxH l = (i : Int) ∧ isHead l[i] = true ∧ ∀ x ∈ l.take i, isHead x = false
  | [] => .inl ⟨rfl, by simp⟩
  | x :: l => by
    by_cases hx : isHead x = true
    · exact .inr ⟨0, by simp, by simp [idxH, hx], by simpa using hx, by simp⟩
    · have hx' : isHead x = false := by simpa using hx
      rcases idxH_spec l with ⟨e, h⟩ | ⟨i, hi, e, h1, h2⟩
      · refine .inl ⟨by simp [idxH, hx, e], fun y hy => ?_⟩
        rcases List.mem_cons.1 hy with rfl | hy
        · exact hx'
        · exact h y hy
      · refine .inr ⟨i + 1, by simpa using hi, ?_, by simpa using h1, fun y hy => ?_⟩
        · simp only [idxH, hx, e]
          rw [if_neg (by simp), if_neg (by omega)]
          rfl
        · rw [List.take_succ_cons] at hy
          rcases List.mem_cons.1 hy with rfl | hy
          · exact hx'
          · exact h2 y hy

section
variable {w w' w1 w2 : World}

abbrev Row (w : World) (g cap : Nat) (l : List ByteArray) : Prop := w.ownsRow 0 9 1 (.slice (some ⟨g, 0, none⟩) l.length cap) l.length (l.map Value.string)

theorem row_at {g cap : Nat} {l : List ByteArray} (h : Row w g cap l) (j : Nat) (hj : j < l.length) : w.cell? ⟨g, j, none⟩ = some (.string l[j]) := by
  have := h.cellAt j (by omega)
  rw [this, List.getElem?_map, List.getElem?_eq_getElem hj]
  rfl
theorem row_fr {g cap : Nat} {l : List ByteArray} (h : Row w g cap l) (j : Nat) : w.frozen? ⟨g, j, none⟩ = false := h.frozenAt j
theorem row_heap {g cap : Nat} {l : List ByteArray} (h : Row w g cap l) : ∃ cur, w.heap[g]? = some (.cells cur 9 (0, 0)) ∧ l.length ≤ cap ∧ cap ≤ maxLen ∧ cur.size = cap ∧ cur.toList.take l.length = l.map Value.string := by
  rcases h.2 with ⟨e, _⟩ | ⟨g', cap', cur, e, _, hg, h1, h2, h3, h4⟩
  · cases e
  · cases e
    exact ⟨cur, hg, h1, h2, by simpa using h3, by simpa using h4⟩
theorem row_mk {g cap : Nat} {l : List ByteArray} {cur : Array Value} (hg : w.heap[g]? = some (.cells cur 9 (0, 0))) (h1 : l.length ≤ cap) (h2 : cap ≤ maxLen) (h3 : cur.size = cap) (h4 : cur.toList.take l.length = l.map Value.string) : Row w g cap l :=
  ⟨by simp, .inr ⟨g, cap, cur, rfl, Nat.zero_le _, hg, h1, h2, by simpa using h3, by simpa using h4⟩⟩
theorem row_take {g cap : Nat} {l : List ByteArray} (h : Row w g cap l) (i : Nat) (hi : i ≤ l.length) : w.ownsRow 0 9 1 (.slice (some ⟨g, 0, none⟩) i cap) (l.take i).length ((l.take i).map Value.string) := by
  obtain ⟨cur, hg, h1, h2, h3, h4⟩ := row_heap h
  have hl : (l.take i).length = i := by simp; omega
  have := row_mk (l := l.take i) hg (by omega) h2 h3 (by rw [hl, List.map_take, ← h4, List.take_take, Nat.min_eq_left hi])
  unfold Row at this
  rw [hl] at this ⊢
  exact this
theorem row_set {g cap : Nat} {l : List ByteArray} (h : Row w g cap l) (i : Nat) (hi : i < l.length) (x : ByteArray) : Row (w.setCell ⟨g, i, none⟩ (.string x)) g cap (l.set i x) := by
  obtain ⟨cur, hg, h1, h2, h3, h4⟩ := row_heap h
  refine row_mk (heap_setCell_self hg _) (by simpa using h1) h2 (by simpa using h3) ?_
  rw [List.length_set, Array.toList_setIfInBounds, List.take_set, h4, List.map_set]
theorem kp_set (g i : Nat) (x : Value) : Kp (fun k => k = g) w (w.setCell ⟨g, i, none⟩ x) := (Kp.refl (fun k => k = g) w).setCell (p := ⟨g, i, none⟩) rfl _

/-- Cells behind place o are written. -/
theorem setCells_behind (g : Nat) (T : TypeId) (fr : Nat × Nat) : ∀ (xs : List Value) (o : Nat) (w : World) (cur : Array Value), w.heap[g]? = some (.cells cur T fr) → ∃ cur', (w.setCells g o xs).heap[g]? = some (.cells cur' T fr) ∧ cur'.size = cur.size ∧ cur'.toList.take o = cur.toList.take o ∧ Kp (fun k => k = g) w (w.setCells g o xs)
  | [], o, w, cur, h => ⟨cur, h, rfl, rfl, Kp.refl _ w⟩
  | x :: xs, o, w, cur, h => by
    obtain ⟨cur', h1, h2, h3, h4⟩ := setCells_behind g T fr xs (o + 1) (w.setCell ⟨g, o, none⟩ x) _ (heap_setCell_self h x)
    refine ⟨cur', h1, by simpa using h2, ?_, (kp_set g o x).trans h4 (fun _ _ e => e)⟩
    have e1 : cur'.toList.take o = (cur'.toList.take (o + 1)).take o := by rw [List.take_take, Nat.min_eq_left (by omega)]
    rw [e1, h3, List.take_take, Nat.min_eq_left (by omega), Array.toList_setIfInBounds]
    apply List.ext_getElem?
    intro j
    rw [List.getElem?_take, List.getElem?_take]
    split
    · rw [List.getElem?_set_ne (by omega)]
    · rfl

theorem f54_at (x : ByteArray) (w : World) : Calls Try.prog 54 #[.string x] w fun e w' => e = .returned (.bool (isHead x)) ∧ w' = w := by
  have hx : (x.toList == [104, 101, 97, 100]) = isHead x := rfl
  go_enter Try.func54, Try.ntmps54
  go_wp2
  go_ret
  exact ⟨rfl, rfl⟩

set_option maxHeartbeats 4000000 in
set_option maxRecDepth 100000 in
theorem index_at {g cap : Nat} {l : List ByteArray} (h : Row w g cap l) (hl : l.length ≤ 1000000000) : Calls Try.prog 65 #[.slice (some ⟨g, 0, none⟩) l.length cap, .func (.func 54) #[] #[]] w fun e w' => e = .returned (.int .i64 (idxH l)) ∧ w' = w := by
  have HR := Lib.hid h
  clear h
  go_enter Try.func65, Try.ntmps65
  go_wp2_with fail
  go_loopg [8] (l.length + 1) (fun kq v w' => ∃ i : Nat, v = .int .i64 i ∧ Hid (i ≤ l.length) ∧ Hid (l.length < i + kq) ∧ w' = w ∧ Hid (∀ x ∈ l.take i, isHead x = false))
  case atStart => exact ⟨0, rfl, Lib.hid (Nat.zero_le _), Lib.hid (by omega), rfl, Lib.hid (by simp)⟩
  case round =>
    obtain ⟨i, rfl, HI, HK, rfl, HA⟩ := hrel
    have hi := HI.out
    by_cases hlt : i < l.length
    · have d1 : decide ((i : Int) < (l.length : Int)) = true := decide_eq_true (by omega)
      have d2 : decide (i < l.length) = true := decide_eq_true hlt
      obtain ⟨x, hx⟩ : ∃ x, l[i] = x := ⟨_, rfl⟩
      have hc := row_at HR.out i hlt
      rw [hx] at hc
      have HX := Lib.hid hx
      clear hx
      cases gk with
      | zero => exact absurd HK.out (by omega)
      | succ k1 =>
        have hF := f54_at x wr
        cases hh : isHead x with
        | true =>
          rw [hh] at hF
          have HE : Hid (idxH l = (i : Int)) := Lib.hid (by
            rcases idxH_spec l with ⟨_, h2⟩ | ⟨i2, hi2, e, h1, h2⟩
            · have := h2 l[i] (List.getElem_mem hlt)
              rw [HX.out, hh] at this
              cases this
            · rcases Nat.lt_trichotomy i i2 with h3 | h3 | h3
              · have := h2 l[i] (List.mem_take_iff_getElem.2 ⟨i, by omega, rfl⟩)
                rw [HX.out, hh] at this
                cases this
              · rw [e, h3]
              · have := HA.out l[i2] (List.mem_take_iff_getElem.2 ⟨i2, by omega, rfl⟩)
                rw [h1] at this
                cases this)
          go_wp2_with (go_at_call 54; refine hF.mono ?_; rintro e w1 ⟨rfl, rfl⟩)
          go_ret
          exact ⟨by rw [HE.out]; rfl, rfl⟩
        | false =>
          rw [hh] at hF
          have HA2 : Hid (∀ y ∈ l.take (i + 1), isHead y = false) := Lib.hid (fun y hy => by
            rw [List.take_succ_eq_append_getElem hlt] at hy
            rcases List.mem_append.1 hy with hy | hy
            · exact HA.out y hy
            · simp at hy
              rw [hy, HX.out]
              exact hh)
          go_wp2_with (go_at_call 54; refine hF.mono ?_; rintro e w1 ⟨rfl, rfl⟩)
          go_roundg k1
          case measure => omega
          case rel => exact ⟨i + 1, rfl, Lib.hid (by omega), Lib.hid (by have := HK.out; omega), rfl, HA2⟩
    · have d1 : decide ((i : Int) < (l.length : Int)) = false := decide_eq_false (by omega)
      have d2 : decide (i < l.length) = false := decide_eq_false hlt
      have HE : Hid (idxH l = -1) := Lib.hid (by
        have hie : i = l.length := by omega
        have ha := HA.out
        rw [hie, List.take_length] at ha
        rcases idxH_spec l with ⟨e, _⟩ | ⟨i2, hi2, e, h1, h2⟩
        · exact e
        · have := ha l[i2] (List.getElem_mem hi2)
          rw [h1] at this
          cases this)
      go_wp2_with fail
      go_ret
      exact ⟨by rw [HE.out]; rfl, rfl⟩

theorem noHead_take (l : List ByteArray) (j : Nat) (hj : j < l.length) : noHead (l.take (j + 1)) = noHead (l.take j) ++ (if isHead l[j] = true then [] else [l[j]]) := by
  unfold noHead
  rw [List.take_succ_eq_append_getElem hj, List.filter_append]
  congr 1
  unfold isHead
  by_cases h : (l[j].toList == tHead) = true
  · simp [h]
  · simp [h]
theorem noHead_none (l : List ByteArray) (h : ∀ x ∈ l, isHead x = false) : noHead l = l := by
  unfold noHead
  rw [List.filter_eq_self]
  intro x hx
  have := h x hx
  unfold isHead at this
  rw [this]
  rfl
theorem noHead_len (l : List ByteArray) : (noHead l).length ≤ l.length := List.length_filter_le _ _

/-- The row while it is swept: j places have been looked at, the first i hold what is kept of them. -/
structure Swept (l : List ByteArray) (i j : Nat) (ns : List ByteArray) : Prop where
  len : ns.length = l.length
  lt : i < j
  le : j ≤ l.length
  low : ns.take i = noHead (l.take j)
  high : ns.drop j = l.drop j

theorem Swept.get {l ns : List ByteArray} {i j : Nat} (h : Swept l i j ns) (hj : j < l.length) : ∃ hn : j < ns.length, ns[j] = l[j] := by
  have hn : j < ns.length := by rw [h.len]; exact hj
  refine ⟨hn, ?_⟩
  have h1 : ns[j]? = l[j]? := by
    have := congrArg (fun x => x[0]?) h.high
    simpa using this
  rw [List.getElem?_eq_getElem hn, List.getElem?_eq_getElem hj] at h1
  exact Option.some.inj h1
theorem Swept.skip {l ns : List ByteArray} {i j : Nat} (h : Swept l i j ns) (hj : j < l.length) (hx : isHead l[j] = true) : Swept l i (j + 1) ns := by
  refine ⟨h.len, by have := h.lt; omega, hj, by rw [noHead_take l j hj, if_pos hx, List.append_nil]; exact h.low, ?_⟩
  rw [← List.drop_drop, h.high, List.drop_drop]
theorem Swept.keep {l ns : List ByteArray} {i j : Nat} (h : Swept l i j ns) (hj : j < l.length) (hx : isHead l[j] = false) : Swept l (i + 1) (j + 1) (ns.set i l[j]) := by
  have hl := h.lt
  have hn := h.len
  refine ⟨by simpa using h.len, by omega, hj, ?_, ?_⟩
  · rw [noHead_take l j hj, if_neg (by rw [hx]; simp), ← h.low]
    apply List.ext_getElem?
    intro k
    rw [List.getElem?_take, List.getElem?_append]
    have e1 : (ns.take i).length = i := by simp; omega
    rw [e1]
    by_cases hk : k < i
    · rw [if_pos hk, if_pos (by omega), List.getElem?_set_ne (by omega), List.getElem?_take, if_pos hk]
    · rw [if_neg hk]
      by_cases hk2 : k = i
      · subst hk2
        rw [if_pos (by omega), List.getElem?_set_self (by omega)]
        simp
      · rw [if_neg (by omega)]
        symm
        rw [List.getElem?_eq_none_iff]
        simp
        omega
  · rw [List.drop_set_of_lt (by omega), ← List.drop_drop, h.high, List.drop_drop]
theorem Swept.start {l : List ByteArray} {i : Nat} (hi : i < l.length) (h1 : isHead l[i] = true) (h2 : ∀ x ∈ l.take i, isHead x = false) : Swept l i (i + 1) l :=
  ⟨rfl, by omega, hi, by rw [noHead_take l i hi, if_pos h1, List.append_nil, noHead_none _ h2], rfl⟩
theorem Swept.done {l ns : List ByteArray} {i : Nat} (h : Swept l i l.length ns) : ns.take i = noHead l := by rw [h.low, List.take_length]
theorem Swept.count {l ns : List ByteArray} {i : Nat} (h : Swept l i l.length ns) : (noHead l).length = i := by
  rw [← h.done]
  have := h.lt
  have := h.len
  simp
  omega

theorem str_zero (w : World) : (zeroValue 9).run Try.prog w = .ok (.string ⟨#[]⟩) w := by kernel_rfl

set_option maxHeartbeats 8000000 in
set_option maxRecDepth 100000 in
theorem delete_row {g cap : Nat} {l : List ByteArray} (h : Row w g cap l) (hl : l.length ≤ 1000000000) : Calls Try.prog 53 #[.slice (some ⟨g, 0, none⟩) l.length cap, .func (.func 54) #[] #[]] w fun e w' => e = .returned (.slice (some ⟨g, 0, none⟩) (noHead l).length cap) ∧ Hid (w'.ownsRow 0 9 1 (.slice (some ⟨g, 0, none⟩) (noHead l).length cap) (noHead l).length ((noHead l).map Value.string) ∧ Kp (fun k => k = g) w w') := by
  have hI := index_at h hl
  rcases idxH_spec l with ⟨e1, hall⟩ | ⟨i0, hi0, e1, ht, hall⟩
  · rw [e1] at hI
    have HE := Lib.hid (noHead_none l hall)
    have HR := Lib.hid h
    clear h hall e1
    go_enter Try.func53, Try.ntmps53
    go_wp2_with (go_at_call 65; refine hI.mono ?_; rintro e w1 ⟨rfl, rfl⟩)
    go_ret
    exact ⟨by rw [HE.out]; rfl, Lib.hid (by rw [HE.out]; exact ⟨HR.out, Kp.refl _ _⟩)⟩
  · rw [e1] at hI
    have HS := Lib.hid (Swept.start hi0 ht hall)
    have HR := Lib.hid h
    have hne1 : ((i0 : Int) == -1) = false := beq_eq_false_iff_ne.2 (by omega)
    have HI0 := Lib.hid hi0
    clear h hall e1 ht
    go_enter Try.func53, Try.ntmps53
    go_wp2_with (go_at_call 65; refine hI.mono ?_; rintro e w1 ⟨rfl, rfl⟩)
    go_loopg [5, 6] (l.length + 1) (fun kq v5 v6 w' => ∃ (i j : Nat) (ns : List ByteArray), v5 = .int .i64 i ∧ v6 = .int .i64 j ∧ Hid (j ≤ l.length) ∧ Hid (l.length < j + kq) ∧ Hid (Swept l i j ns) ∧ Hid (Row w' g cap ns ∧ Kp (fun k => k = g) w1 w'))
    case atStart => exact ⟨i0, i0 + 1, l, rfl, by go_num, Lib.hid (by have := HI0.out; omega), Lib.hid (by omega), HS, Lib.hid ⟨HR.out, Kp.refl _ _⟩⟩
    case round =>
      obtain ⟨i, j, ns, rfl, rfl, HJ, HK, HW, HC⟩ := hrel
      have hj := HJ.out
      have hij := HW.out.lt
      have hns := HW.out.len
      by_cases hlt : j < l.length
      · have d1 : decide ((j : Int) < (l.length : Int)) = true := decide_eq_true (by omega)
        have d2 : decide (j < l.length) = true := decide_eq_true hlt
        obtain ⟨x, hx⟩ : ∃ x, l[j] = x := ⟨_, rfl⟩
        have hcj := row_at HC.out.1 j (by omega)
        obtain ⟨_, hg⟩ := HW.out.get hlt
        rw [hg, hx] at hcj
        have hci := row_at HC.out.1 i (by omega)
        have hfi := row_fr HC.out.1 i
        have hil : (i : Int) < (l.length : Int) := by omega
        generalize ns[i] = old at hci
        have HX := Lib.hid hx
        clear hx hg
        cases gk with
        | zero => exact absurd HK.out (by omega)
        | succ k1 =>
          have hF := f54_at x wr
          cases hh : isHead x with
          | true =>
            rw [hh] at hF
            have HW2 := Lib.hid (HW.out.skip hlt (by rw [HX.out]; exact hh))
            go_wp2_with (go_at_call 54; refine hF.mono ?_; rintro e w2 ⟨rfl, rfl⟩)
            go_roundg k1
            case measure => omega
            case rel => exact ⟨i, j + 1, ns, rfl, by go_num, Lib.hid (by omega), Lib.hid (by have := HK.out; omega), HW2, HC⟩
          | false =>
            rw [hh] at hF
            have HW2 := Lib.hid (HW.out.keep hlt (by rw [HX.out]; exact hh))
            rw [HX.out] at HW2
            have HC2 : Hid (Row (wr.setCell ⟨g, i, none⟩ (.string x)) g cap (ns.set i x) ∧ Kp (fun k => k = g) w1 (wr.setCell ⟨g, i, none⟩ (.string x))) := Lib.hid ⟨row_set HC.out.1 i (by omega) x, HC.out.2.trans (kp_set g i _) (fun _ _ e => e)⟩
            go_wp2_with (go_at_call 54; refine hF.mono ?_; rintro e w2 ⟨rfl, rfl⟩)
            go_roundg k1
            case measure => omega
            case rel => exact ⟨i + 1, j + 1, ns.set i x, by go_num, by go_num, Lib.hid (by omega), Lib.hid (by have := HK.out; omega), HW2, HC2⟩
      · obtain rfl : j = l.length := by omega
        have hltz : ¬ (l.length : Int) < (l.length : Int) := by omega
        obtain ⟨cur, hg, hcap1, hcap2, hcap3, hcap4⟩ := row_heap HC.out.1
        rw [hns] at hcap1 hcap4
        have hcl : ∀ ty, (Builtin.clear_ #[44] ty #[.slice (some ⟨g, i, none⟩) (l.length - i) (cap - i)]).run Try.prog wr = .ok (.tuple #[]) (wr.setCells g i (List.replicate (l.length - i) (.string ⟨#[]⟩))) :=
          fun ty => Lib.run_clear_slice wr _ _ ty _ Try.underlying44 str_zero rfl rfl g i _ _ (by omega) (fun t ht => by rw [row_at HC.out.1 (i + t) (by omega)]; rfl) (fun t ht => row_fr HC.out.1 (i + t))
        obtain ⟨cur', hg', hs', ht', hk'⟩ := setCells_behind g 9 (0, 0) (List.replicate (l.length - i) (.string ⟨#[]⟩)) i wr cur hg
        have hdone := HW.out.done
        have hcount := HW.out.count
        have HE : Hid ((noHead l).length = i) := Lib.hid hcount
        have HZ : Hid (Row (wr.setCells g i (List.replicate (l.length - i) (.string ⟨#[]⟩))) g cap (noHead l) ∧ Kp (fun k => k = g) w1 (wr.setCells g i (List.replicate (l.length - i) (.string ⟨#[]⟩)))) :=
          Lib.hid ⟨row_mk hg' (by omega) hcap2 (by omega) (by rw [hcount, ht', ← hdone, List.map_take, ← hcap4, List.take_take, Nat.min_eq_left (by omega)]), HC.out.2.trans hk' (fun _ _ e => e)⟩
        clear hg hg' hs' ht' hk' hdone hcount hcap3 hcap4
        go_wp2_with fail
        go_ret
        exact ⟨by rw [HE.out]; rfl, HZ⟩

set_option maxHeartbeats 4000000 in
set_option maxRecDepth 100000 in
theorem index_nil (w : World) : Calls Try.prog 65 #[.slice none 0 0, .func (.func 54) #[] #[]] w fun e w' => e = .returned (.int .i64 (-1)) ∧ w' = w := by
  go_enter Try.func65, Try.ntmps65
  go_wp2_with fail
  go_loopg [8] 1 (fun kq v w' => v = .int .i64 0 ∧ w' = w)
  case atStart => exact ⟨rfl, rfl⟩
  case round =>
    obtain ⟨rfl, rfl⟩ := hrel
    go_wp2_with fail
    go_ret
    exact ⟨rfl, rfl⟩
set_option maxHeartbeats 4000000 in
set_option maxRecDepth 100000 in
theorem delete_nil (w : World) : Calls Try.prog 53 #[.slice none 0 0, .func (.func 54) #[] #[]] w fun e w' => e = .returned (.slice none 0 0) ∧ w' = w := by
  have hI := index_nil w
  go_enter Try.func53, Try.ntmps53
  go_wp2_with (go_at_call 65; refine hI.mono ?_; rintro e w1 ⟨rfl, rfl⟩)
  go_ret
  exact ⟨rfl, rfl⟩
end
end Go.Proofs.Ytaejicolhliecaa.Rend

/- A page: what a start tag does. -/
set_option linter.unusedVariables false
set_option linter.unusedSimpArgs false
namespace Go.Proofs.Ytaejicolhliecaa.Rend
open Go.RowKit Go.Lib Go.Proofs.Ytaejicolhliecaa.Buf Go.Proofs.Ytaejicolhliecaa.Flow Go.Proofs.Ytaejicolhliecaa.PRe

section
variable {w w' w1 w2 : World} {p T : Nat} {F G : Nat → Prop} {s s1 s2 : Pg}

/-- The page behind a world in which the token lies too. -/
structure PT (w0 w : World) (p : Nat) (F : Nat → Prop) (T : Nat) (o : Obj) (s : Pg) : Prop where
  page : PDoes w0 w p F s
  tok : w.heap[T]? = some o
  own : ¬ F T
  lt : T < w0.heap.size

theorem PT.does {w0 w w' : World} {o : Obj} {s s' : Pg} (h : PT w0 w p F T o s) (hd : ∀ F1, Pge w p F1 s → PDoes w w' p F1 s') : PT w0 w' p F T o s' := by
  obtain ⟨F1, h1, h2, h3⟩ := h.page
  have hd1 := hd F1 h1
  refine ⟨PDoes.trans' h2 h3 hd1, ?_, h.own, h.lt⟩
  obtain ⟨F2, h4, h5, h6⟩ := hd1
  refine (h5.block T (Buf.lt_of_heap h.tok) (fun e => ?_)).trans h.tok
  rcases h3 T e with e | e
  · exact h.own e
  · have := h.lt
    omega
theorem PT.below {w0 w w' : World} {o : Obj} {s : Pg} (h : PT w0 w p F T o s) (hb : Below w.heap.size w w') : PT w0 w' p F T o s := h.does (fun F1 h1 => h1.refl.below hb)

theorem PT.cells {w0 w : World} {k : Int} {n t : ByteArray} {A : Option Addr} {l c : Nat} {b : Bool} {s : Pg} (h : PT w0 w p F T (tcells k n t A l c b) s) :
    ∃ f a vc, w.cell? ⟨p, 0, none⟩ = some (.pointer (some ⟨f, 0, none⟩)) ∧ w.cell? ⟨p, 1, none⟩ = some (.slice a s.names.length vc) ∧ w.cell? ⟨p, 2, none⟩ = some (.int .i64 s.kept) ∧ w.frozen? ⟨p, 1, none⟩ = false ∧ w.frozen? ⟨p, 2, none⟩ = false ∧ w.cell? ⟨T, 1, none⟩ = some (.string n) := by
  obtain ⟨F1, ⟨f, v, G, hp⟩, _⟩ := h.page
  obtain ⟨c0, c1, c2, hf⟩ := page_cells hp
  obtain ⟨va, vc, rfl⟩ := own_len hp.row
  exact ⟨f, va, vc, c0, c1, c2, hf 1, hf 2, by rw [Lib.cell_of_heap h.tok]; rfl⟩

abbrev TK (w0 w : World) (p : Nat) (F : Nat → Prop) (T : Nat) (k : Int) (n t : ByteArray) (A : Option Addr) (l c : Nat) (b : Bool) (s : Pg) : Prop := PT w0 w p F T (tcells k n t A l c b) s

theorem infoStr : (Try.prog.info? 9).map (fun i => (i.zero, i.size, i.bytes)) = some (some (.string ⟨#[]⟩), 1, 16) := by kernel_rfl

section
variable {w0 : World} {k : Int} {n t : ByteArray} {A : Option Addr} {l c : Nat} {b : Bool}

theorem pt_hides (h : Hid (TK w0 w p F T k n t A l c b s)) : Calls Try.prog 29 #[.string n] w fun e w' => e = .returned (.bool (hasN LH n)) ∧ Hid (TK w0 w' p F T k n t A l c b s) := by
  refine (hides_calls n w).mono ?_
  rintro e w' ⟨h1, h2⟩
  exact ⟨h1, Lib.hid (h.out.below h2)⟩
theorem pt_keeps (h : Hid (TK w0 w p F T k n t A l c b s)) : Calls Try.prog 56 #[.string n] w fun e w' => e = .returned (.bool (hasN LK n)) ∧ Hid (TK w0 w' p F T k n t A l c b s) := by
  refine (keeps_calls n w).mono ?_
  rintro e w' ⟨h1, h2⟩
  exact ⟨h1, Lib.hid (h.out.below h2)⟩
theorem pt_lines (h : Hid (TK w0 w p F T k n t A l c b s)) (hb : Hid (s.m.ends ≤ 900000000)) : Calls Try.prog 55 #[.pointer (some ⟨p, 0, none⟩), .string n] w fun e w' => e = .returned (.tuple #[]) ∧ Hid (TK w0 w' p F T k n t A l c b { s with m := tagM n s.m }) := by
  obtain ⟨F1, h1, h2, h3⟩ := h.out.page
  refine (tag_at h1 n hb.out).mono ?_
  rintro e w' ⟨h4, h5⟩
  refine ⟨h4, Lib.hid ⟨PDoes.trans' h2 h3 h5.out, ?_, h.out.own, h.out.lt⟩⟩
  obtain ⟨F2, h6, h7, h8⟩ := h5.out
  refine (h7.block T (Buf.lt_of_heap h.out.tok) (fun e => ?_)).trans h.out.tok
  rcases h3 T e with e | e
  · exact h.out.own e
  · have := h.out.lt
    omega
theorem pt_kept (h : TK w0 w p F T k n t A l c b s) (x : Nat) : TK w0 (w.setCell ⟨p, 2, none⟩ (.int .i64 x)) p F T k n t A l c b { s with kept := x } :=
  h.does (fun F1 h1 => by
    obtain ⟨f, v, G, hp⟩ := h1
    exact pd_kept hp x)

/-- What an append onto the page's open names wants: the row and the cells behind a draw, and a new block. -/
theorem pt_row (h : Hid (TK w0 w p F T k n t A l c b s)) {a : Option Addr} {vc : Nat} (hc : w.cell? ⟨p, 1, none⟩ = some (.slice a s.names.length vc)) :
    (∀ o, (w.alloc o).drew.ownsRow 0 9 1 (.slice a s.names.length vc) s.names.length (s.names.map Value.string)) ∧ (∀ o, (w.alloc o).cell? ⟨p, 1, none⟩ = some (.slice a s.names.length vc)) ∧ (∀ o, (w.alloc o).cell? ⟨T, 1, none⟩ = some (.string n)) := by
  obtain ⟨F1, ⟨f, v, G, hp⟩, h2, h3⟩ := h.out.page
  obtain ⟨c0, c1, c2, hf⟩ := page_cells hp
  rw [c1] at hc
  have hv : v = .slice a s.names.length vc := Option.some.inj hc
  subst hv
  refine ⟨fun o => (hp.row.alloc o).drew, fun o => ?_, fun o => ?_⟩
  · exact (World.cell?_of_block (a := ⟨p, 1, none⟩) (Lib.alloc_old w o p (Buf.lt_of_heap hp.heap))).trans c1
  · have : w.cell? ⟨T, 1, none⟩ = some (.string n) := by rw [Lib.cell_of_heap h.out.tok]; rfl
    exact (World.cell?_of_block (a := ⟨T, 1, none⟩) (Lib.alloc_old w o T (Buf.lt_of_heap h.out.tok))).trans this

/-- Behind the append: the cells that the store wants, and what the store leaves. -/
theorem pt_appended (h : Hid (TK w0 w p F T k n t A l c b s)) {a : Option Addr} {vc : Nat} (hc : w.cell? ⟨p, 1, none⟩ = some (.slice a s.names.length vc)) {o : Obj} {g cap : Nat} {w2 : World}
    (hown : w2.ownsRow 0 9 1 (.slice (some ⟨g, 0, none⟩) (s.names.length + 1) cap) (s.names.length + 1) (s.names.map Value.string ++ [.string n])) (hgrow : (w.alloc o).drew.grownBy w2 (Value.slice a s.names.length vc).ownBlock) (hat : (Value.slice a s.names.length vc).ownBlock = some g ∨ g = w.heap.size + 1) :
    w2.cell? ⟨p, 1, none⟩ = some (.slice a s.names.length vc) ∧ w2.frozen? ⟨p, 1, none⟩ = false ∧ Hid (TK w0 (w2.setCell ⟨p, 1, none⟩ (.slice (some ⟨g, 0, none⟩) (s.names.length + 1) cap)) p F T k n t A l c b { s with names := s.names ++ [n] }) := by
  obtain ⟨F1, ⟨f, v, G, hp⟩, h2, h3⟩ := h.out.page
  obtain ⟨c0, c1, c2, hf⟩ := page_cells hp
  rw [c1] at hc
  have hv : v = .slice a s.names.length vc := Option.some.inj hc
  subst hv
  have hk : Kp (fun k => (Value.slice a s.names.length vc).ownBlock = some k) w w2 := ((Kp.refl _ w).alloc o).drew.grown hgrow (fun k hk => Or.inl hk)
  have hpe : w2.heap[p]? = w.heap[p]? := hk.block p (Buf.lt_of_heap hp.heap) (fun e => (hp.nv p e).2 rfl)
  refine ⟨(World.cell?_of_block (a := ⟨p, 1, none⟩) hpe).trans c1, (World.frozen?_of_block (a := ⟨p, 1, none⟩) hpe).trans (hf 1), Lib.hid (h.out.does (fun F2 hp2 => ?_))⟩
  obtain ⟨f2, v2, G2, hp2⟩ := hp2
  have h6 := (page_cells hp2).2.1
  rw [c1] at h6
  have hv2 := Option.some.inj h6
  subst hv2
  refine pd_row hp2 hk ?_ (fun k e => ?_)
  · rw [List.length_append, List.map_append]
    exact hown
  · simp [Value.ownBlock] at e
    subst e
    rcases hat with e | e
    · exact Or.inl e
    · exact Or.inr (by omega)

/-- DeleteFunc over the page's open names, and the store of what it hands back. -/
theorem pt_delete (h : Hid (TK w0 w p F T k n t A l c b s)) (hl : Hid (s.names.length ≤ 1000000000)) {a : Option Addr} {vc : Nat} (hc : w.cell? ⟨p, 1, none⟩ = some (.slice a s.names.length vc)) :
    Calls Try.prog 53 #[.slice a s.names.length vc, .func (.func 54) #[] #[]] w fun e w' => ∃ a' c', e = .returned (.slice a' (noHead s.names).length c') ∧ (∃ v0, w'.cell? ⟨p, 1, none⟩ = some v0) ∧ w'.frozen? ⟨p, 1, none⟩ = false ∧ Hid (TK w0 (w'.setCell ⟨p, 1, none⟩ (.slice a' (noHead s.names).length c')) p F T k n t A l c b { s with names := noHead s.names }) := by
  obtain ⟨F1, ⟨f, v, G, hp⟩, h2, h3⟩ := h.out.page
  obtain ⟨c0, c1, c2, hf⟩ := page_cells hp
  rw [c1] at hc
  have hv : v = .slice a s.names.length vc := Option.some.inj hc
  subst hv
  rcases hp.row.2 with ⟨e0, h0⟩ | ⟨g, cap, cur, e0, _⟩
  · simp only [Value.slice.injEq] at e0
    obtain ⟨rfl, e1, rfl⟩ := e0
    have hnm : s.names = [] := List.length_eq_zero_iff.1 e1
    rw [e1]
    refine (delete_nil w).mono ?_
    rintro e w' ⟨h4, rfl⟩
    refine ⟨none, 0, by rw [h4, hnm]; rfl, ⟨_, c1⟩, hf 1, Lib.hid (h.out.does (fun F2 hp2 => ?_))⟩
    obtain ⟨f2, v2, G2, hp2⟩ := hp2
    have h5 := (page_cells hp2).2.1
    rw [c1] at h5
    have hv2 := Option.some.inj h5
    subst hv2
    refine pd_row hp2 (Kp.refl _ _) ?_ (fun k e => by simp [Value.ownBlock] at e)
    rw [hnm]
    exact World.ownsRow_nil _ _ _ _
  · simp only [Value.slice.injEq] at e0
    obtain ⟨rfl, _, rfl⟩ := e0
    refine (delete_row (g := g) (cap := vc) (l := s.names) hp.row hl.out).mono ?_
    rintro e w' ⟨h4, h5⟩
    have hk := h5.out.2
    have hne : p ≠ g := fun e => (hp.nv g rfl).2 e.symm
    have hpe : w'.heap[p]? = w.heap[p]? := hk.block p (Buf.lt_of_heap hp.heap) hne
    refine ⟨_, _, h4, ⟨_, (World.cell?_of_block (a := ⟨p, 1, none⟩) hpe).trans c1⟩, (World.frozen?_of_block (a := ⟨p, 1, none⟩) hpe).trans (hf 1), Lib.hid (h.out.does (fun F2 hp2 => ?_))⟩
    obtain ⟨f2, v2, G2, hp2⟩ := hp2
    have h6 := (page_cells hp2).2.1
    rw [c1] at h6
    have hv2 := Option.some.inj h6
    subst hv2
    exact pd_row hp2 (hk.mono (fun k _ e => by rw [e]; rfl)) h5.out.1 (fun k e => Or.inl e)
end
end
end Go.Proofs.Ytaejicolhliecaa.Rend

/- A page: what a start tag does: the walk. -/
set_option linter.unusedVariables false
set_option linter.unusedSimpArgs false
namespace Go.Proofs.Ytaejicolhliecaa.Rend
open Go.RowKit Go.Lib Go.Proofs.Ytaejicolhliecaa.Buf Go.Proofs.Ytaejicolhliecaa.Flow Go.Proofs.Ytaejicolhliecaa.PRe

section
variable {w w' w1 w2 : World} {p T : Nat} {F G : Nat → Prop} {s s1 s2 : Pg}

theorem pt_new (h : Pge w p F s) (k : Int) (n t : ByteArray) (A : Option Addr) (l c : Nat) (b : Bool) : TK (w.alloc (tcells k n t A l c b)) (w.alloc (tcells k n t A l c b)) p F w.heap.size k n t A l c b s := by
  have hbel : Below w.heap.size w (w.alloc (tcells k n t A l c b)) := (Below.refl _ w).alloc (Nat.le_refl _) _
  refine ⟨(h.below hbel).refl, heap_alloc_new w _, fun e => ?_, by simp⟩
  obtain ⟨f, v, G, hp⟩ := h
  have := hp.fin _ e
  omega
theorem pt_out {k : Int} {n t : ByteArray} {A : Option Addr} {l c : Nat} {b : Bool} (h : TK (w.alloc (tcells k n t A l c b)) w' p F w.heap.size k n t A l c b s) : PDoes w w' p F s :=
  PDoes.of_below ((Below.refl _ w).alloc (Nat.le_refl _) _) h.page

theorem one_str (n : ByteArray) : ∀ u ∈ [Value.string n], u.oneCell' = true := by
  intro u hu
  simp at hu
  rw [hu]
  rfl

set_option maxHeartbeats 4000000 in
set_option maxRecDepth 100000 in
theorem start_full (h : Pge w p F s) (k : Int) (n t : ByteArray) (A : Option Addr) (l c : Nat) (b : Bool) (hb : s.m.ends ≤ 900000000) (hl : s.names.length ≤ 1000000000) (hk : s.kept ≤ 1000000000) (hB : ¬ n.toList = tBody) (hH : hasN LH n = false) (hN : ¬ bodyN n s.names = []) :
    Calls Try.prog 38 #[.pointer (some ⟨p, 0, none⟩), tok k n t A l c b] w fun e w' => e = .returned (.tuple #[]) ∧ Hid (PDoes w w' p F (s.start n)) := by
  have HP := Lib.hid (pt_new h k n t A l c b)
  obtain ⟨f, a, vc, c0, c1, c2, f1, f2, cT⟩ := HP.out.cells
  have HL := Lib.hid hl
  have HKK := Lib.hid hk
  have HB := Lib.hid hb
  have hbn : bodyN n s.names = s.names := by unfold bodyN; rw [if_neg hB]
  have q1 : (n.toList == [98, 111, 100, 121]) = false := beq_eq_false_iff_ne.2 hB
  have HS : Hid (s.start n = { s with names := s.names }) := Lib.hid (by unfold Pg.start; rw [if_neg (by rw [hH]; simp), if_neg hN, hbn])
  rw [hbn] at hN
  have hpos : (0 : Int) < (s.names.length : Int) := by have := List.length_pos_iff.2 hN; omega
  have q2 : decide ((0 : Int) < (s.names.length : Int)) = true := decide_eq_true hpos
  clear h hb hl hk hB hbn hN
  unfold tok
  unfold tcells at c0 c1 c2 f1 f2 cT
  go_enter Try.func38, Try.ntmps38
  go_wp2_with (first
    | (go_at_call 29; refine (pt_hides HP).mono ?_; rw [hH]; rintro e w3 ⟨rfl, h3⟩; obtain ⟨f4, a4, vc4, e0, e1, e2, e3, e4, eT⟩ := h3.out.cells))
  (try simp only [Exit.inBlock, Exit.then])
  refine bodyPost_ret (results_none rfl _ _ _) rfl ?_
  exact ⟨rfl, by rw [HS.out]; exact Lib.hid (pt_out h3.out)⟩

set_option maxHeartbeats 4000000 in
set_option maxRecDepth 100000 in
theorem start_plain (h : Pge w p F s) (k : Int) (n t : ByteArray) (A : Option Addr) (l c : Nat) (b : Bool) (hb : s.m.ends ≤ 900000000) (hl : s.names.length ≤ 1000000000) (hk : s.kept ≤ 1000000000) (hB : ¬ n.toList = tBody) (hH : hasN LH n = false) (hN : bodyN n s.names = []) (hK : hasN LK n = false) :
    Calls Try.prog 38 #[.pointer (some ⟨p, 0, none⟩), tok k n t A l c b] w fun e w' => e = .returned (.tuple #[]) ∧ Hid (PDoes w w' p F (s.start n)) := by
  have HP := Lib.hid (pt_new h k n t A l c b)
  obtain ⟨f, a, vc, c0, c1, c2, f1, f2, cT⟩ := HP.out.cells
  have HL := Lib.hid hl
  have HKK := Lib.hid hk
  have HB := Lib.hid hb
  have hbn : bodyN n s.names = s.names := by unfold bodyN; rw [if_neg hB]
  have q1 : (n.toList == [98, 111, 100, 121]) = false := beq_eq_false_iff_ne.2 hB
  have HS : Hid (s.start n = { names := s.names, kept := s.kept, m := tagM n s.m }) := Lib.hid (by unfold Pg.start; rw [if_neg (by rw [hH]; simp), if_pos hN, if_neg (by rw [hK]; simp), ← hbn, hN])
  rw [hbn] at hN
  have q2 : decide ((0 : Int) < (s.names.length : Int)) = false := by rw [hN]; rfl
  have q3 : decide (0 < s.names.length) = false := by rw [hN]; rfl
  clear h hb hl hk hB hbn hN
  unfold tok
  unfold tcells at c0 c1 c2 f1 f2 cT
  go_enter Try.func38, Try.ntmps38
  go_wp2_with (first
    | (go_at_call 29; refine (pt_hides HP).mono ?_; rw [hH]; rintro e w3 ⟨rfl, h3⟩; obtain ⟨f4, a4, vc4, e0, e1, e2, e3, e4, eT⟩ := h3.out.cells)
    | (go_at_call 55; refine (pt_lines h3 HB).mono ?_; rintro e w4 ⟨rfl, h4⟩; obtain ⟨f5, a5, vc5, m0, m1, m2, m3, m4, mT⟩ := h4.out.cells)
    | (go_at_call 56; refine (pt_keeps h4).mono ?_; rw [hK]; rintro e w5 ⟨rfl, h5⟩; obtain ⟨f6, a6, vc6, n0, n1, n2, n3, n4, nT⟩ := h5.out.cells))
  go_end0
  exact ⟨rfl, by rw [HS.out]; exact Lib.hid (pt_out h5.out)⟩

set_option maxHeartbeats 4000000 in
set_option maxRecDepth 100000 in
theorem start_keeps (h : Pge w p F s) (k : Int) (n t : ByteArray) (A : Option Addr) (l c : Nat) (b : Bool) (hb : s.m.ends ≤ 900000000) (hl : s.names.length ≤ 1000000000) (hk : s.kept ≤ 1000000000) (hB : ¬ n.toList = tBody) (hH : hasN LH n = false) (hN : bodyN n s.names = []) (hK : hasN LK n = true) :
    Calls Try.prog 38 #[.pointer (some ⟨p, 0, none⟩), tok k n t A l c b] w fun e w' => e = .returned (.tuple #[]) ∧ Hid (PDoes w w' p F (s.start n)) := by
  have HP := Lib.hid (pt_new h k n t A l c b)
  obtain ⟨f, a, vc, c0, c1, c2, f1, f2, cT⟩ := HP.out.cells
  have HL := Lib.hid hl
  have HKK := Lib.hid hk
  have HB := Lib.hid hb
  have hbn : bodyN n s.names = s.names := by unfold bodyN; rw [if_neg hB]
  have q1 : (n.toList == [98, 111, 100, 121]) = false := beq_eq_false_iff_ne.2 hB
  have HS : Hid (s.start n = { names := s.names, kept := s.kept + 1, m := tagM n s.m }) := Lib.hid (by unfold Pg.start; rw [if_neg (by rw [hH]; simp), if_pos hN, if_pos hK, ← hbn, hN])
  rw [hbn] at hN
  have q2 : decide ((0 : Int) < (s.names.length : Int)) = false := by rw [hN]; rfl
  have q3 : decide (0 < s.names.length) = false := by rw [hN]; rfl
  clear h hb hl hk hB hbn hN
  unfold tok
  unfold tcells at c0 c1 c2 f1 f2 cT
  go_enter Try.func38, Try.ntmps38
  go_wp2_with (first
    | (go_at_call 29; refine (pt_hides HP).mono ?_; rw [hH]; rintro e w3 ⟨rfl, h3⟩; obtain ⟨f4, a4, vc4, e0, e1, e2, e3, e4, eT⟩ := h3.out.cells)
    | (go_at_call 55; refine (pt_lines h3 HB).mono ?_; rintro e w4 ⟨rfl, h4⟩; obtain ⟨f5, a5, vc5, m0, m1, m2, m3, m4, mT⟩ := h4.out.cells)
    | (go_at_call 56; refine (pt_keeps h4).mono ?_; rw [hK]; rintro e w5 ⟨rfl, h5⟩; obtain ⟨f6, a6, vc6, n0, n1, n2, n3, n4, nT⟩ := h5.out.cells))
  go_end0
  have hz := pt_kept h5.out (s.kept + 1)
  have hw : wrap64 ((s.kept : Int) + 1) = ((s.kept + 1 : Nat) : Int) := by
    have := HKK.out
    unfold wrap64
    omega
  exact ⟨rfl, by rw [HS.out, hw]; exact Lib.hid (pt_out hz)⟩

set_option maxHeartbeats 4000000 in
set_option maxRecDepth 100000 in
theorem start_hides (h : Pge w p F s) (k : Int) (n t : ByteArray) (A : Option Addr) (l c : Nat) (b : Bool) (hb : s.m.ends ≤ 900000000) (hl : s.names.length ≤ 1000000000) (hk : s.kept ≤ 1000000000) (hB : ¬ n.toList = tBody) (hH : hasN LH n = true) :
    Calls Try.prog 38 #[.pointer (some ⟨p, 0, none⟩), tok k n t A l c b] w fun e w' => e = .returned (.tuple #[]) ∧ Hid (PDoes w w' p F (s.start n)) := by
  have HP := Lib.hid (pt_new h k n t A l c b)
  obtain ⟨f, a, vc, c0, c1, c2, f1, f2, cT⟩ := HP.out.cells
  have HL := Lib.hid hl
  have HKK := Lib.hid hk
  have HB := Lib.hid hb
  have hbn : bodyN n s.names = s.names := by unfold bodyN; rw [if_neg hB]
  have q1 : (n.toList == [98, 111, 100, 121]) = false := beq_eq_false_iff_ne.2 hB
  have HS : Hid (s.start n = { s with names := s.names ++ [n] }) := Lib.hid (by unfold Pg.start; rw [if_pos hH, hbn])
  clear h hb hl hk hB hbn
  unfold tok
  unfold tcells at c0 c1 c2 f1 f2 cT
  obtain ⟨i0, hi, hz0, hz1, hz2⟩ := info_parts infoStr
  go_enter Try.func38, Try.ntmps38
  go_wp2_with (first
    | (go_at_call 29; refine (pt_hides HP).mono ?_; rw [hH]; rintro e w3 ⟨rfl, h3⟩; obtain ⟨f4, a4, vc4, e0, e1, e2, e3, e4, eT⟩ := h3.out.cells))
  have HR := Lib.hid (pt_row h3 e1)
  have ca1 := HR.out.2.1
  have ca2 := HR.out.2.2
  go_region_law ((refine step_append_lies _ (by rfl) _ _ _ (by rfl) 0 9 i0 (.string ⟨#[]⟩) 1 16 Try.underlying44 hi hz0 hz1 hz2 rfl (by decide) (.slice a4 s.names.length vc4) s.names.length _ rfl (HR.out.1 _) _ 1 1 [.string n] rfl rfl (World.news_of_block (w := (w3.alloc _).drew) (heap_alloc_new w3 _)) (one_str n) (by decide) (by have := HL.out; have := noHead_len s.names; unfold maxLen; omega) (by have := HL.out; have := noHead_len s.names; omega) (Nat.zero_le _) _ rfl ?_; intro g cap w4 hown hgrow hat hlt; obtain ⟨x1, x2, h4⟩ := pt_appended h3 e1 hown hgrow (hat.imp id (fun e => by simpa using e))))
  all_goals (
    go_wp2_with fail
    (try simp only [Exit.inBlock, Exit.then])
    refine bodyPost_ret (results_none rfl _ _ _) rfl ?_
    exact ⟨rfl, by rw [HS.out]; exact Lib.hid (pt_out h4.out)⟩)

set_option maxHeartbeats 4000000 in
set_option maxRecDepth 100000 in
theorem start_full_b (h : Pge w p F s) (k : Int) (n t : ByteArray) (A : Option Addr) (l c : Nat) (b : Bool) (hb : s.m.ends ≤ 900000000) (hl : s.names.length ≤ 1000000000) (hk : s.kept ≤ 1000000000) (hB : n.toList = tBody) (hH : hasN LH n = false) (hN : ¬ bodyN n s.names = []) :
    Calls Try.prog 38 #[.pointer (some ⟨p, 0, none⟩), tok k n t A l c b] w fun e w' => e = .returned (.tuple #[]) ∧ Hid (PDoes w w' p F (s.start n)) := by
  have HP := Lib.hid (pt_new h k n t A l c b)
  obtain ⟨f, a, vc, c0, c1, c2, f1, f2, cT⟩ := HP.out.cells
  have HL := Lib.hid hl
  have HKK := Lib.hid hk
  have HB := Lib.hid hb
  have hbn : bodyN n s.names = noHead s.names := by unfold bodyN; rw [if_pos hB]
  have q1 : (n.toList == [98, 111, 100, 121]) = true := beq_iff_eq.2 hB
  have HS : Hid (s.start n = { s with names := (noHead s.names) }) := Lib.hid (by unfold Pg.start; rw [if_neg (by rw [hH]; simp), if_neg hN, hbn])
  rw [hbn] at hN
  have hpos : (0 : Int) < ((noHead s.names).length : Int) := by have := List.length_pos_iff.2 hN; omega
  have q2 : decide ((0 : Int) < ((noHead s.names).length : Int)) = true := decide_eq_true hpos
  clear h hb hl hk hB hbn hN
  unfold tok
  unfold tcells at c0 c1 c2 f1 f2 cT
  go_enter Try.func38, Try.ntmps38
  go_wp2_with (first
    | (go_at_call 53; refine (pt_delete HP HL c1).mono ?_; rintro e w2 ⟨a2, v2, rfl, ⟨v0, d1⟩, d2, h2⟩; obtain ⟨f3, a3, vc3, g0, g1, g2, g3, g4, gT⟩ := h2.out.cells)
    | (go_at_call 29; refine (pt_hides h2).mono ?_; rw [hH]; rintro e w3 ⟨rfl, h3⟩; obtain ⟨f4, a4, vc4, e0, e1, e2, e3, e4, eT⟩ := h3.out.cells))
  (try simp only [Exit.inBlock, Exit.then])
  refine bodyPost_ret (results_none rfl _ _ _) rfl ?_
  exact ⟨rfl, by rw [HS.out]; exact Lib.hid (pt_out h3.out)⟩

set_option maxHeartbeats 4000000 in
set_option maxRecDepth 100000 in
theorem start_plain_b (h : Pge w p F s) (k : Int) (n t : ByteArray) (A : Option Addr) (l c : Nat) (b : Bool) (hb : s.m.ends ≤ 900000000) (hl : s.names.length ≤ 1000000000) (hk : s.kept ≤ 1000000000) (hB : n.toList = tBody) (hH : hasN LH n = false) (hN : bodyN n s.names = []) (hK : hasN LK n = false) :
    Calls Try.prog 38 #[.pointer (some ⟨p, 0, none⟩), tok k n t A l c b] w fun e w' => e = .returned (.tuple #[]) ∧ Hid (PDoes w w' p F (s.start n)) := by
  have HP := Lib.hid (pt_new h k n t A l c b)
  obtain ⟨f, a, vc, c0, c1, c2, f1, f2, cT⟩ := HP.out.cells
  have HL := Lib.hid hl
  have HKK := Lib.hid hk
  have HB := Lib.hid hb
  have hbn : bodyN n s.names = noHead s.names := by unfold bodyN; rw [if_pos hB]
  have q1 : (n.toList == [98, 111, 100, 121]) = true := beq_iff_eq.2 hB
  have HS : Hid (s.start n = { names := (noHead s.names), kept := s.kept, m := tagM n s.m }) := Lib.hid (by unfold Pg.start; rw [if_neg (by rw [hH]; simp), if_pos hN, if_neg (by rw [hK]; simp), ← hbn, hN])
  rw [hbn] at hN
  have q2 : decide ((0 : Int) < ((noHead s.names).length : Int)) = false := by rw [hN]; rfl
  have q3 : decide (0 < (noHead s.names).length) = false := by rw [hN]; rfl
  clear h hb hl hk hB hbn hN
  unfold tok
  unfold tcells at c0 c1 c2 f1 f2 cT
  go_enter Try.func38, Try.ntmps38
  go_wp2_with (first
    | (go_at_call 53; refine (pt_delete HP HL c1).mono ?_; rintro e w2 ⟨a2, v2, rfl, ⟨v0, d1⟩, d2, h2⟩; obtain ⟨f3, a3, vc3, g0, g1, g2, g3, g4, gT⟩ := h2.out.cells)
    | (go_at_call 29; refine (pt_hides h2).mono ?_; rw [hH]; rintro e w3 ⟨rfl, h3⟩; obtain ⟨f4, a4, vc4, e0, e1, e2, e3, e4, eT⟩ := h3.out.cells)
    | (go_at_call 55; refine (pt_lines h3 HB).mono ?_; rintro e w4 ⟨rfl, h4⟩; obtain ⟨f5, a5, vc5, m0, m1, m2, m3, m4, mT⟩ := h4.out.cells)
    | (go_at_call 56; refine (pt_keeps h4).mono ?_; rw [hK]; rintro e w5 ⟨rfl, h5⟩; obtain ⟨f6, a6, vc6, n0, n1, n2, n3, n4, nT⟩ := h5.out.cells))
  go_end0
  exact ⟨rfl, by rw [HS.out]; exact Lib.hid (pt_out h5.out)⟩

set_option maxHeartbeats 4000000 in
set_option maxRecDepth 100000 in
theorem start_keeps_b (h : Pge w p F s) (k : Int) (n t : ByteArray) (A : Option Addr) (l c : Nat) (b : Bool) (hb : s.m.ends ≤ 900000000) (hl : s.names.length ≤ 1000000000) (hk : s.kept ≤ 1000000000) (hB : n.toList = tBody) (hH : hasN LH n = false) (hN : bodyN n s.names = []) (hK : hasN LK n = true) :
    Calls Try.prog 38 #[.pointer (some ⟨p, 0, none⟩), tok k n t A l c b] w fun e w' => e = .returned (.tuple #[]) ∧ Hid (PDoes w w' p F (s.start n)) := by
  have HP := Lib.hid (pt_new h k n t A l c b)
  obtain ⟨f, a, vc, c0, c1, c2, f1, f2, cT⟩ := HP.out.cells
  have HL := Lib.hid hl
  have HKK := Lib.hid hk
  have HB := Lib.hid hb
  have hbn : bodyN n s.names = noHead s.names := by unfold bodyN; rw [if_pos hB]
  have q1 : (n.toList == [98, 111, 100, 121]) = true := beq_iff_eq.2 hB
  have HS : Hid (s.start n = { names := (noHead s.names), kept := s.kept + 1, m := tagM n s.m }) := Lib.hid (by unfold Pg.start; rw [if_neg (by rw [hH]; simp), if_pos hN, if_pos hK, ← hbn, hN])
  rw [hbn] at hN
  have q2 : decide ((0 : Int) < ((noHead s.names).length : Int)) = false := by rw [hN]; rfl
  have q3 : decide (0 < (noHead s.names).length) = false := by rw [hN]; rfl
  clear h hb hl hk hB hbn hN
  unfold tok
  unfold tcells at c0 c1 c2 f1 f2 cT
  go_enter Try.func38, Try.ntmps38
  go_wp2_with (first
    | (go_at_call 53; refine (pt_delete HP HL c1).mono ?_; rintro e w2 ⟨a2, v2, rfl, ⟨v0, d1⟩, d2, h2⟩; obtain ⟨f3, a3, vc3, g0, g1, g2, g3, g4, gT⟩ := h2.out.cells)
    | (go_at_call 29; refine (pt_hides h2).mono ?_; rw [hH]; rintro e w3 ⟨rfl, h3⟩; obtain ⟨f4, a4, vc4, e0, e1, e2, e3, e4, eT⟩ := h3.out.cells)
    | (go_at_call 55; refine (pt_lines h3 HB).mono ?_; rintro e w4 ⟨rfl, h4⟩; obtain ⟨f5, a5, vc5, m0, m1, m2, m3, m4, mT⟩ := h4.out.cells)
    | (go_at_call 56; refine (pt_keeps h4).mono ?_; rw [hK]; rintro e w5 ⟨rfl, h5⟩; obtain ⟨f6, a6, vc6, n0, n1, n2, n3, n4, nT⟩ := h5.out.cells))
  go_end0
  have hz := pt_kept h5.out (s.kept + 1)
  have hw : wrap64 ((s.kept : Int) + 1) = ((s.kept + 1 : Nat) : Int) := by
    have := HKK.out
    unfold wrap64
    omega
  exact ⟨rfl, by rw [HS.out, hw]; exact Lib.hid (pt_out hz)⟩

set_option maxHeartbeats 4000000 in
set_option maxRecDepth 100000 in
theorem start_hides_b (h : Pge w p F s) (k : Int) (n t : ByteArray) (A : Option Addr) (l c : Nat) (b : Bool) (hb : s.m.ends ≤ 900000000) (hl : s.names.length ≤ 1000000000) (hk : s.kept ≤ 1000000000) (hB : n.toList = tBody) (hH : hasN LH n = true) :
    Calls Try.prog 38 #[.pointer (some ⟨p, 0, none⟩), tok k n t A l c b] w fun e w' => e = .returned (.tuple #[]) ∧ Hid (PDoes w w' p F (s.start n)) := by
  have HP := Lib.hid (pt_new h k n t A l c b)
  obtain ⟨f, a, vc, c0, c1, c2, f1, f2, cT⟩ := HP.out.cells
  have HL := Lib.hid hl
  have HKK := Lib.hid hk
  have HB := Lib.hid hb
  have hbn : bodyN n s.names = noHead s.names := by unfold bodyN; rw [if_pos hB]
  have q1 : (n.toList == [98, 111, 100, 121]) = true := beq_iff_eq.2 hB
  have HS : Hid (s.start n = { s with names := (noHead s.names) ++ [n] }) := Lib.hid (by unfold Pg.start; rw [if_pos hH, hbn])
  clear h hb hl hk hB hbn
  unfold tok
  unfold tcells at c0 c1 c2 f1 f2 cT
  obtain ⟨i0, hi, hz0, hz1, hz2⟩ := info_parts infoStr
  go_enter Try.func38, Try.ntmps38
  go_wp2_with (first
    | (go_at_call 53; refine (pt_delete HP HL c1).mono ?_; rintro e w2 ⟨a2, v2, rfl, ⟨v0, d1⟩, d2, h2⟩; obtain ⟨f3, a3, vc3, g0, g1, g2, g3, g4, gT⟩ := h2.out.cells)
    | (go_at_call 29; refine (pt_hides h2).mono ?_; rw [hH]; rintro e w3 ⟨rfl, h3⟩; obtain ⟨f4, a4, vc4, e0, e1, e2, e3, e4, eT⟩ := h3.out.cells))
  have HR := Lib.hid (pt_row h3 e1)
  have ca1 := HR.out.2.1
  have ca2 := HR.out.2.2
  go_region_law ((refine step_append_lies _ (by rfl) _ _ _ (by rfl) 0 9 i0 (.string ⟨#[]⟩) 1 16 Try.underlying44 hi hz0 hz1 hz2 rfl (by decide) (.slice a4 (noHead s.names).length vc4) (noHead s.names).length _ rfl (HR.out.1 _) _ 1 1 [.string n] rfl rfl (World.news_of_block (w := (w3.alloc _).drew) (heap_alloc_new w3 _)) (one_str n) (by decide) (by have := HL.out; have := noHead_len s.names; unfold maxLen; omega) (by have := HL.out; have := noHead_len s.names; omega) (Nat.zero_le _) _ rfl ?_; intro g cap w4 hown hgrow hat hlt; obtain ⟨x1, x2, h4⟩ := pt_appended h3 e1 hown hgrow (hat.imp id (fun e => by simpa using e))))
  all_goals (
    go_wp2_with fail
    (try simp only [Exit.inBlock, Exit.then])
    refine bodyPost_ret (results_none rfl _ _ _) rfl ?_
    exact ⟨rfl, by rw [HS.out]; exact Lib.hid (pt_out h4.out)⟩)

theorem start_at (h : Pge w p F s) (k : Int) (n t : ByteArray) (A : Option Addr) (l c : Nat) (b : Bool) (hb : s.m.ends ≤ 900000000) (hl : s.names.length ≤ 1000000000) (hk : s.kept ≤ 1000000000) :
    Calls Try.prog 38 #[.pointer (some ⟨p, 0, none⟩), tok k n t A l c b] w fun e w' => e = .returned (.tuple #[]) ∧ Hid (PDoes w w' p F (s.start n)) := by
  cases hH : hasN LH n with
  | true =>
    by_cases hB : n.toList = tBody
    · exact start_hides_b h k n t A l c b hb hl hk hB hH
    · exact start_hides h k n t A l c b hb hl hk hB hH
  | false =>
    by_cases hN : bodyN n s.names = []
    · cases hK : hasN LK n with
      | true =>
        by_cases hB : n.toList = tBody
        · exact start_keeps_b h k n t A l c b hb hl hk hB hH hN hK
        · exact start_keeps h k n t A l c b hb hl hk hB hH hN hK
      | false =>
        by_cases hB : n.toList = tBody
        · exact start_plain_b h k n t A l c b hb hl hk hB hH hN hK
        · exact start_plain h k n t A l c b hb hl hk hB hH hN hK
    · by_cases hB : n.toList = tBody
      · exact start_full_b h k n t A l c b hb hl hk hB hH hN
      · exact start_full h k n t A l c b hb hl hk hB hH hN
end
end Go.Proofs.Ytaejicolhliecaa.Rend

/- slices.Backward over a row of names: what it hands out, one by one, from behind. -/
set_option linter.unusedVariables false
set_option linter.unusedSimpArgs false
namespace Go.Proofs.Ytaejicolhliecaa.Rend
open Go.RowKit Go.Lib Go.Shelf Go.Proofs.Ytaejicolhliecaa.Buf Go.Proofs.Ytaejicolhliecaa.Flow Go.Proofs.Ytaejicolhliecaa.PRe

attribute [local go_sem] Oper.semAt_some

/-- The j-th from behind, and its place. -/
def fromBack (l : List ByteArray) (j : Nat) : Nat × ByteArray := (l.length - 1 - j, (l[l.length - 1 - j]?).getD ByteArray.empty)

set_option maxRecDepth 100000 in
set_option maxHeartbeats 2000000 in
/-- Backward's closure: for every loop body that keeps what lay below n₀. -/
theorem back1_in (F : Fence) (n : Nat) (h8 : F.fn 66) (hro : F.round = none) (hn : 1 ≤ n) (r Bs n₀ g cap : Nat) (l : List ByteArray) (hl : l.length ≤ 1000000000) (hb : g < n₀) (hBn : Bs < n₀) (J Jx : List Nat → World → Prop)
    (hY : ∀ pre x W, J pre W → pre.length < l.length → YieldAt F (n - 1) Try.prog r #[.int .i64 ((fromBack l x).1 : Int), .string (fromBack l x).2] W fun e W' =>
      (e = .returned (.bool true) ∧ J (pre ++ [x]) W' ∧ Below n₀ W W') ∨ (e = .returned (.bool false) ∧ Jx (pre ++ [x]) W'))
    (W : World) (hBs : W.cell? ⟨Bs, 0, none⟩ = some (.slice (some ⟨g, 0, none⟩) l.length cap)) (hc : Row W g cap l) (h0 : J [] W) :
    CallsIn F n Try.prog 66 #[.func (.yield r) #[] #[], .pointer (some ⟨Bs, 0, none⟩)] W fun e W' => (∃ v, e = .returned v) ∧
      ((∃ ys, ys = List.range l.length ∧ J ys W') ∨ (∃ pre, (∃ k, k ≤ l.length ∧ pre = List.range k) ∧ Jx pre W')) := by
  refine callsIn_of_wp Try.func66 rfl h8 ?_ hro
  simp only [Try.ntmps66, List.size_toArray, List.length_cons, List.length_nil, Nat.reduceAdd, Nat.reduceSub, Array.replicate_succ, Array.replicate_zero, List.push_toArray, List.append_toArray, List.nil_append, List.cons_append]
  gi_wp2
  gi_loopw [3] (fun i wr => ∃ k : Nat, k ≤ l.length ∧ i = .int .i64 ((l.length : Int) - 1 - k) ∧ J (List.range k) wr ∧ Below n₀ W wr)
    (fun i _ => (RowKit.intOf i + 1).toNat)
  case atStart => exact ⟨0, Nat.zero_le _, by go_num, h0, Below.refl _ _⟩
  case round =>
    obtain ⟨k, hk, rfl, hJs, hnx⟩ := hrel
    have hBs' := (hnx.cell (p := ⟨Bs, 0, none⟩) hBn).trans hBs
    by_cases hlt : k < l.length
    · obtain ⟨i, hi⟩ : ∃ i : Nat, i = l.length - 1 - k := ⟨_, rfl⟩
      have e1 : (l.length : Int) - 1 - k = (i : Int) := by omega
      have hil : i < l.length := by omega
      rw [e1]
      have hfb : fromBack l k = (i, l[i]) := by unfold fromBack; rw [← hi, List.getElem?_eq_getElem hil]; rfl
      have hcx := (hnx.cell (p := ⟨g, i, none⟩) hb).trans (row_at hc i hil)
      obtain ⟨x, hx⟩ : ∃ x, l[i] = x := ⟨_, rfl⟩
      rw [hx] at hcx hfb
      obtain ⟨fn, tmps, assign, body, hy, hR⟩ := hY _ k wr hJs (by rw [List.length_range]; exact hlt)
      rw [hfb] at hy
      dsimp only at hy
      have d1 : decide ((0 : Int) ≤ (i : Int)) = true := decide_eq_true (by omega)
      have HI := Lib.hid hi
      have HX := Lib.hid hx
      clear hi hx e1
      gi_wp2
      refine hR.mono ?_
      rintro e W3 (⟨rfl, hJ3, hk3⟩ | ⟨rfl, hJx3⟩)
      · gi_wp2
        go_roundw
        case rel => exact ⟨k + 1, by omega, by (have := HI.out; have hw : wrap64 ((i : Int) - 1) = (l.length : Int) - 1 - ((k + 1 : Nat) : Int) := (by unfold wrap64; omega); first | rw [hw] | (congr 1; omega)), by rw [List.range_succ]; exact hJ3, hnx.trans hk3⟩
        case measure => have := HI.out; simp [RowKit.intOf] <;> omega
      · gi_wp2
        refine bodyPost_ret (results_none rfl _ _ _) rfl ?_
        exact ⟨⟨_, rfl⟩, .inr ⟨_, ⟨k + 1, by omega, by rw [List.range_succ]⟩, hJx3⟩⟩
    · obtain rfl : k = l.length := by omega
      have e1 : (l.length : Int) - 1 - l.length = -1 := by omega
      rw [e1]
      gi_wp2
      go_end0
      exact ⟨⟨_, rfl⟩, .inl ⟨_, rfl, hJs⟩⟩

set_option maxRecDepth 100000 in
set_option maxHeartbeats 1000000 in
/-- .. at the nil slice: no round. -/
theorem back1_nil_in (F : Fence) (n : Nat) (h8 : F.fn 66) (hro : F.round = none) (r Bs : Nat) (J : List Nat → World → Prop) (W : World) (hBs : W.cell? ⟨Bs, 0, none⟩ = some (.slice none 0 0)) (h0 : J [] W) :
    CallsIn F n Try.prog 66 #[.func (.yield r) #[] #[], .pointer (some ⟨Bs, 0, none⟩)] W fun e W' => (∃ v, e = .returned v) ∧ J [] W' := by
  refine callsIn_of_wp Try.func66 rfl h8 ?_ hro
  simp only [Try.ntmps66, List.size_toArray, List.length_cons, List.length_nil, Nat.reduceAdd, Nat.reduceSub, Array.replicate_succ, Array.replicate_zero, List.push_toArray, List.append_toArray, List.nil_append, List.cons_append]
  gi_wp2
  gi_loopw [3] (fun i wr => i = .int .i64 (-1) ∧ J [] wr) (fun _ _ => 0)
  case atStart => exact ⟨by go_num, h0⟩
  case round =>
    obtain ⟨rfl, hJs⟩ := hrel
    gi_wp2
    go_end0
    exact ⟨⟨_, rfl⟩, hJs⟩

set_option maxHeartbeats 1000000 in
theorem back_in (F : Fence) (n : Nat) (h6 : F.fn 57) (hro : F.round = none) (a : Option Addr) (len cap : Nat) (w : World) :
    CallsIn F n Try.prog 57 #[.slice a len cap] w fun e w' => e = .returned (.func (.func 66) #[] #[.pointer (some ⟨w.heap.size, 0, none⟩)]) ∧ w' = w.alloc (.cells #[.slice a len cap] 44) := by
  refine callsIn_of_wp Try.func57 rfl h6 ?_ hro
  simp only [Try.ntmps57, List.size_toArray, List.length_cons, List.length_nil, Nat.reduceAdd, Nat.reduceSub, Array.replicate_succ, Array.replicate_zero, List.push_toArray, List.append_toArray, List.nil_append, List.cons_append]
  gi_wp2
  go_ret
  exact ⟨rfl, rfl⟩

/-- A row of names, or nil. -/
def Names (W : World) (n₀ : Nat) (sv : Value) (l : List ByteArray) : Prop := (sv = .slice none 0 0 ∧ l = []) ∨ ∃ g cap, sv = .slice (some ⟨g, 0, none⟩) l.length cap ∧ g < n₀ ∧ Row W g cap l
theorem Names.below {n₀ : Nat} {W W' : World} {sv : Value} {l : List ByteArray} (h : Names W n₀ sv l) (hb : Below n₀ W W') : Names W' n₀ sv l := by
  rcases h with h | ⟨g, cap, h1, h2, h3⟩
  · exact .inl h
  · refine .inr ⟨g, cap, h1, h2, ?_⟩
    obtain ⟨cur, k1, k2, k3, k4, k5⟩ := row_heap h3
    exact row_mk ((hb.block g h2).trans k1) k2 k3 k4 k5
theorem names_of {w : World} {v : Value} {l : List ByteArray} (h : w.ownsRow 0 9 1 v l.length (l.map Value.string)) : Names w w.heap.size v l := by
  rcases h.2 with ⟨e, h0⟩ | ⟨g, cap, cur, rfl, _, hg, _⟩
  · exact .inl ⟨e, List.length_eq_zero_iff.1 h0⟩
  · exact .inr ⟨g, cap, rfl, Buf.lt_of_heap hg, h⟩

/-- slices.Backward's value: all, from behind; or the first k of them. -/
theorem back_stops (F : Fence) (n : Nat) (h8 : F.fn 66) (hro : F.round = none) (hn : 1 ≤ n) (Bs n₀ : Nat) (sv : Value) (l : List ByteArray) (hl : l.length ≤ 1000000000) (w : World) (hBs : Bs < n₀) (hn₀ : n₀ ≤ w.heap.size)
    (hc : w.cell? ⟨Bs, 0, none⟩ = some sv) (hI : Names w n₀ sv l) :
    SeqStopsK F n Try.prog 66 #[.pointer (some ⟨Bs, 0, none⟩)] (fun x : Nat => #[Value.int .i64 ((fromBack l x).1 : Int), Value.string (fromBack l x).2]) (Below n₀) (fun ys => ys = List.range l.length)
      (fun pre => ∃ k, k ≤ l.length ∧ pre = List.range k) l.length w := fun r J Jx W hW _ _ hY h0 => by
  have hc' := ((hW.mono hn₀).cell (p := ⟨Bs, 0, none⟩) hBs).trans hc
  rcases hI.below (hW.mono hn₀) with ⟨rfl, rfl⟩ | ⟨g, cap, rfl, hb, hr⟩
  · exact (back1_nil_in F n h8 hro r Bs J W hc' h0).mono fun e W' ⟨he, hj⟩ => ⟨he, .inl ⟨_, rfl, hj⟩⟩
  · exact back1_in F n h8 hro hn r Bs n₀ g cap l hl hb hBs J Jx hY W hc' hr h0

theorem lastN_no {n : ByteArray} : ∀ {l : List ByteArray}, (∀ x ∈ l, x.toList ≠ n.toList) → lastN n l = none
  | [], _ => rfl
  | x :: l, h => by
    simp only [lastN, lastN_no (l := l) (fun z hz => h z (List.mem_cons_of_mem _ hz))]
    rw [if_neg (h x List.mem_cons_self)]
/-- The last place of a name, told by what comes from behind. -/
theorem lastN_none {n : ByteArray} {l : List ByteArray} (h : ∀ j, j < l.length → (fromBack l j).2.toList ≠ n.toList) : lastN n l = none := by
  refine lastN_no (fun x hx => ?_)
  obtain ⟨i, hi, rfl⟩ := List.getElem_of_mem hx
  have := h (l.length - 1 - i) (by omega)
  unfold fromBack at this
  rw [show l.length - 1 - (l.length - 1 - i) = i by omega, List.getElem?_eq_getElem hi] at this
  exact this
theorem lastN_some {n : ByteArray} : ∀ {l : List ByteArray} {i : Nat} (hi : i < l.length), l[i].toList = n.toList → (∀ x ∈ l.drop (i + 1), x.toList ≠ n.toList) → lastN n l = some i
  | x :: l, 0, _, h1, h2 => by
    have : lastN n l = none := lastN_no (by simpa using h2)
    simp only [lastN, this]
    exact if_pos h1
  | x :: l, i + 1, hi, h1, h2 => by
    have := lastN_some (n := n) (l := l) (i := i) (by simpa using hi) (by simpa using h1) (by simpa using h2)
    simp only [lastN, this]
theorem lastN_back {n : ByteArray} {l : List ByteArray} {k : Nat} (hk : k < l.length) (h1 : (fromBack l k).2.toList = n.toList) (h2 : ∀ j, j < k → (fromBack l j).2.toList ≠ n.toList) : lastN n l = some (fromBack l k).1 := by
  have hi : l.length - 1 - k < l.length := by omega
  unfold fromBack at h1
  rw [List.getElem?_eq_getElem hi] at h1
  show lastN n l = some (l.length - 1 - k)
  refine lastN_some hi h1 (fun x hx => ?_)
  obtain ⟨j, hj, rfl⟩ := List.getElem_of_mem hx
  simp at hj
  have := h2 (k - 1 - j) (by omega)
  unfold fromBack at this
  rw [List.getElem?_eq_getElem (by omega)] at this
  simp only [Option.getD_some] at this
  rw [List.getElem_drop]
  have e : l.length - 1 - k + 1 + j = l.length - 1 - (k - 1 - j) := by omega
  simp only [e] at *
  exact this
end Go.Proofs.Ytaejicolhliecaa.Rend
