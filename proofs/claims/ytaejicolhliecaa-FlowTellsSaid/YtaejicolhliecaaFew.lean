/- What lets a law over things that are done off; and what they do, one behind the other. -/
import Derived.Test.YtaejicolhliecaaActs
set_option linter.unusedVariables false
namespace Go.Proofs.Ytaejicolhliecaa.Flow
open Go.RowKit Go.Lib Go.Proofs.Ytaejicolhliecaa.Buf Go.Proofs.Ytaejicolhliecaa.PFl Go.Proofs.YtaejicolhliecaaW.PrintWords

def fewB (l : List S32) : Bool := decide (l.length ≤ 60) && l.all fun x => decide (x.f1.size ≤ 100)

theorem few_l : ∀ (n : Nat) (l : List S32) (i : Nat), l.length ≤ i + n → l.length ≤ 1000 → flailref18_Few.l0 (n + 1) l i = some ((l.drop i).all fun x => decide (x.f1.size ≤ 100))
  | 0, l, i, h, _ => by
    unfold flailref18_Few.l0
    rw [if_neg (by omega), List.drop_eq_nil_of_le (by omega)]
    rfl
  | n + 1, l, i, h, hl => by
    unfold flailref18_Few.l0
    by_cases hi : i < l.length
    · rw [if_pos (by omega), if_pos (by omega)]
      have hd : l.drop i = l[i] :: l.drop (i + 1) := by rw [List.drop_eq_getElem_cons hi]
      have hg : rd_T32 l (i : Int) = l[i] := by simp [rd_T32, hi]
      rw [hg, hd, List.all_cons]
      by_cases hs : l[i].f1.size ≤ 100
      · rw [if_neg (by omega)]
        have hw : wrap64 ((i : Int) + 1) = ((i + 1 : Nat) : Int) := by unfold wrap64; omega
        rw [hw, few_l n l (i + 1) (by omega) hl]
        simp [hs]
      · rw [if_pos (by omega)]
        simp [hs]
    · rw [if_neg (by omega), List.drop_eq_nil_of_le (by omega)]
      rfl

theorem few_at (l : List S32) : flailref18_Few.f (l.length + 1) l = some (fewB l) := by
  unfold flailref18_Few.f fewB
  by_cases h : l.length ≤ 60
  · rw [if_neg (by omega)]
    have := few_l l.length l 0 (by omega) (by omega)
    rw [List.drop_zero] at this
    rw [show ((0 : Nat) : Int) = 0 from rfl] at this
    rw [this]
    simp [h]
  · rw [if_pos (by omega)]
    simp [h]

def act (x : S32) : Act := ⟨x.f0, x.f1, x.f2, x.f3⟩
def doAll (l : List S32) (m : M) : M := l.foldl (fun m x => m.does (act x)) m
theorem doAll_snoc (l : List S32) (x : S32) (m : M) : doAll (l ++ [x]) m = (doAll l m).does (act x) := by simp [doAll]
theorem doAll_size : ∀ (l : List S32) (m : M), (∀ x ∈ l, x.f1.size ≤ 100) → (doAll l m).size ≤ m.size + 200 * l.length
  | [], m, _ => by simp [doAll]
  | x :: l, m, h => by
    have h1 := doAll_size l (m.does (act x)) (fun y hy => h y (List.mem_cons_of_mem _ hy))
    have h2 := does_size (act x) m
    have h3 := h x (List.mem_cons_self)
    simp only [doAll, List.foldl_cons, List.length_cons, act] at h1 h2 ⊢
    omega
theorem few_all {l : List S32} (h : fewB l = true) : l.length ≤ 60 ∧ ∀ x ∈ l, x.f1.size ≤ 100 := by
  unfold fewB at h
  simp only [Bool.and_eq_true, decide_eq_true_eq, List.all_eq_true] at h
  exact h
theorem take_one (l : List S32) (i : Nat) (h : i < l.length) : l.take (i + 1) = l.take i ++ [l[i]] := by
  rw [List.take_succ_eq_append_getElem h]

/-- The cells of the i-th. -/
theorem act_cells {w : World} {A : Option Addr} {l : List S32} (h : Kd.C k32 w A l.length l) (i : Nat) (hi : i < l.length) : ∃ ad, A = some ad ∧ w.cell? (ad.add (i * 4)) = some (.int .i64 (l[i]).f0) ∧ w.cell? ⟨(ad.add (i * 4)).block, (ad.add (i * 4)).off + 1, none⟩ = some (.string (l[i]).f1) ∧ w.cell? ⟨(ad.add (i * 4)).block, (ad.add (i * 4)).off + 2, none⟩ = some (.bool (l[i]).f2) ∧ w.cell? ⟨(ad.add (i * 4)).block, (ad.add (i * 4)).off + 3, none⟩ = some (.int .i64 (l[i]).f3) := by
  have hg : rd_T32 l (i : Int) = l[i] := by simp [rd_T32, hi]
  obtain ⟨ad, h1, h2, h3, h4, h5⟩ := at_T32 h (i : Int) (by omega) (by omega)
  rw [hg] at h2 h3 h4 h5
  exact ⟨ad, h1, by simpa using h2, by simpa using h3, by simpa using h4, by simpa using h5⟩
end Go.Proofs.Ytaejicolhliecaa.Flow
