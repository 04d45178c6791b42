/- The document's own flow: a block of three cells (what is told, the ends, the blanks) that is written in place; what its methods do to it is what the model says. -/
import Derived.Test.YtaejicolhliecaaHandFlowWords
import Derived.RegionTactic
import Derived.ChangeAlike
set_option linter.unusedVariables false
namespace Go.Proofs.Ytaejicolhliecaa.Flow
open Go.RowKit Go.Lib Go.Proofs.Ytaejicolhliecaa.Buf Go.Proofs.Ytaejicolhliecaa.PFl Go.Proofs.YtaejicolhliecaaW.PrintWords Go.Proofs.Ytaejicolhliecaa.HandFlowWords

def rcells (m : M) : Array Value := #[.string ⟨m.told.toArray⟩, .int .i64 m.ends, .string ⟨m.blanks.toArray⟩]
/-- The block b holds m. -/
def Rf (w : World) (b : Nat) (m : M) : Prop := w.heap[b]? = some (.cells (rcells m) 29 (0, 0))
/-- A step: the block holds m' behind it; all others are as they were. -/
def RDoes (w w' : World) (b : Nat) (m' : M) : Prop := Rf w' b m' ∧ Kp (fun k => k = b) w w'

theorem RDoes.trans {w w1 w2 : World} {b : Nat} {m1 m2 : M} (h : RDoes w w1 b m1) (k : RDoes w1 w2 b m2) : RDoes w w2 b m2 := ⟨k.1, h.2.trans k.2 (fun _ _ e => e)⟩
theorem Rf.refl {w : World} {b : Nat} {m : M} (h : Rf w b m) : RDoes w w b m := ⟨h, Kp.refl _ w⟩
theorem Rf.below {w w' : World} {b : Nat} {m : M} (h : Rf w b m) (hb : Below w.heap.size w w') : Rf w' b m := (hb.block b (Buf.lt_of_heap h)).trans h

section
variable {w : World} {b : Nat} {m : M}

theorem rf_cells (h : Rf w b m) : w.cell? ⟨b, 0, none⟩ = some (.string ⟨m.told.toArray⟩) ∧ w.cell? ⟨b, 1, none⟩ = some (.int .i64 m.ends) ∧ w.cell? ⟨b, 2, none⟩ = some (.string ⟨m.blanks.toArray⟩) ∧ ∀ j, w.frozen? ⟨b, j, none⟩ = false := by
  refine ⟨?_, ?_, ?_, fun j => Lib.frozen_of_heap h j⟩
  all_goals (rw [Lib.cell_of_heap h]; rfl)

theorem rf_told (h : Rf w b m) (t : List UInt8) : RDoes w (w.setCell ⟨b, 0, none⟩ (.string ⟨t.toArray⟩)) b { m with told := t } := ⟨heap_setCell_self h _, (Kp.refl (fun k => k = b) w).setCell (p := ⟨b, 0, none⟩) rfl _⟩
theorem rf_ends (h : Rf w b m) (n : Nat) : RDoes w (w.setCell ⟨b, 1, none⟩ (.int .i64 n)) b { m with ends := n } := ⟨heap_setCell_self h _, (Kp.refl (fun k => k = b) w).setCell (p := ⟨b, 1, none⟩) rfl _⟩
theorem rf_blanks (h : Rf w b m) (t : List UInt8) : RDoes w (w.setCell ⟨b, 2, none⟩ (.string ⟨t.toArray⟩)) b { m with blanks := t } := ⟨heap_setCell_self h _, (Kp.refl (fun k => k = b) w).setCell (p := ⟨b, 2, none⟩) rfl _⟩

set_option maxHeartbeats 4000000 in
set_option maxRecDepth 100000 in
theorem rput_zero (h : Rf w b m) (k : Bool) : Calls Try.prog 32 #[.pointer (some ⟨b, 0, none⟩), .int .u8 0, .bool k] w fun e w' => e = .returned (.tuple #[]) ∧ RDoes w w' b m := by
  have HR := Lib.hid h.refl
  clear h
  go_enter Try.func32, Try.ntmps32
  go_wp2
  (try simp only [Exit.inBlock, Exit.then])
  refine bodyPost_ret (results_none rfl _ _ _) rfl ?_
  exact ⟨rfl, HR.out⟩

set_option maxHeartbeats 4000000 in
set_option maxRecDepth 100000 in
theorem rput_lose (h : Rf w b m) (c : UInt8) (h0 : c ≠ 0) (hb : isBlank c = true) : Calls Try.prog 32 #[.pointer (some ⟨b, 0, none⟩), .int .u8 c.toNat, .bool false] w fun e w' => e = .returned (.tuple #[]) ∧ RDoes w w' b m.lose := by
  have hc : c = 9 ∨ c = 10 ∨ c = 12 ∨ c = 13 ∨ c = 32 := by
    rcases c with ⟨⟨n⟩⟩
    revert n
    decide +kernel
  obtain ⟨c0, c1, c2, hf⟩ := rf_cells h
  have hf2 := hf 2
  have HR := Lib.hid h.refl
  have HB := Lib.hid (rf_blanks h [32])
  by_cases he : m.ends = 0
  · have d1 : ((m.ends : Int) == 0) = true := by rw [he]; rfl
    by_cases hbl : m.blanks = []
    · have q1 : ((⟨m.blanks.toArray⟩ : ByteArray).toList == []) = true := by rw [ByteArray.toList_eq, hbl]; rfl
      have q2 : (m.blanks == []) = true := by rw [hbl]; rfl
      have q3 : m.blanks.isEmpty = true := by rw [hbl]; rfl
      have hl : m.lose = { m with blanks := [32] } := by unfold M.lose; rw [if_pos ⟨he, hbl⟩]
      rw [hl]
      clear he hbl hl hf h
      rcases hc with rfl | rfl | rfl | rfl | rfl
      all_goals (
        go_enter Try.func32, Try.ntmps32
        go_wp2
        (try simp only [Exit.inBlock, Exit.then])
        refine bodyPost_ret (results_none rfl _ _ _) rfl ?_
        exact ⟨rfl, HB.out⟩)
    · have q1 : ((⟨m.blanks.toArray⟩ : ByteArray).toList == []) = false := by rw [ByteArray.toList_eq]; exact beq_eq_false_iff_ne.2 hbl
      have q2 : (m.blanks == []) = false := beq_eq_false_iff_ne.2 hbl
      have q3 : m.blanks.isEmpty = false := by cases hh : m.blanks <;> simp_all
      have hl : m.lose = m := by unfold M.lose; rw [if_neg (fun e => hbl e.2)]
      rw [hl]
      clear he hbl hl hf h
      rcases hc with rfl | rfl | rfl | rfl | rfl
      all_goals (
        go_enter Try.func32, Try.ntmps32
        go_wp2
        (try simp only [Exit.inBlock, Exit.then])
        refine bodyPost_ret (results_none rfl _ _ _) rfl ?_
        exact ⟨rfl, HR.out⟩)
  · have d1 : ((m.ends : Int) == 0) = false := by
      rw [beq_eq_false_iff_ne]
      intro e
      exact he (by omega)
    have hl : m.lose = m := by unfold M.lose; rw [if_neg (fun e => he e.1)]
    rw [hl]
    clear he hl hf h
    rcases hc with rfl | rfl | rfl | rfl | rfl
    all_goals (
      go_enter Try.func32, Try.ntmps32
      go_wp2
      (try simp only [Exit.inBlock, Exit.then])
      refine bodyPost_ret (results_none rfl _ _ _) rfl ?_
      exact ⟨rfl, HR.out⟩)

theorem RDoes.drew {w' : World} {m' : M} (h : RDoes w w' b m') : RDoes w w'.drew b m' := ⟨h.1, h.2.drew⟩
theorem rf_alloc (h : Rf w b m) (o : Obj) : RDoes w (w.alloc o) b m := ⟨(Lib.alloc_old w o b (Buf.lt_of_heap h)).trans h, (Kp.refl _ w).alloc o⟩

set_option maxHeartbeats 4000000 in
set_option maxRecDepth 100000 in
theorem rput_line (h : Rf w b m) (c : UInt8) (hc : c = 10 ∨ c = 13) (he : m.ends ≤ 1000000000) : Calls Try.prog 32 #[.pointer (some ⟨b, 0, none⟩), .int .u8 c.toNat, .bool true] w fun e w' => e = .returned (.tuple #[]) ∧ RDoes w w' b m.line := by
  obtain ⟨c0, c1, c2, hf⟩ := rf_cells h
  have hf1 := hf 1
  have hf2 := hf 2
  have h1 := rf_ends h (m.ends + 1)
  have h2 := h1.trans (rf_blanks h1.1 [])
  rw [Int.natCast_add] at h2
  have HD := Lib.hid h2
  clear hf h1 h2 h
  rcases hc with hc | hc
  · subst hc
    go_enter Try.func32, Try.ntmps32
    go_wp2
    (try simp only [Exit.inBlock, Exit.then])
    refine bodyPost_ret (results_none rfl _ _ _) rfl ?_
    exact ⟨rfl, HD.out⟩
  · subst hc
    go_enter Try.func32, Try.ntmps32
    go_wp2
    (try simp only [Exit.inBlock, Exit.then])
    refine bodyPost_ret (results_none rfl _ _ _) rfl ?_
    exact ⟨rfl, HD.out⟩

theorem ba_snoc (l : List UInt8) (c : UInt8) : (⟨l.toArray⟩ : ByteArray) ++ (⟨#[c]⟩ : ByteArray) = ⟨(l ++ [c]).toArray⟩ := by
  apply ByteArray.ext
  simp [ByteArray.data_append]

set_option maxHeartbeats 4000000 in
set_option maxRecDepth 100000 in
theorem rput_blank (h : Rf w b m) (c : UInt8) (hcs : c = 9 ∨ c = 12 ∨ c = 32) (hl : m.blanks.length ≤ 1000000000) : Calls Try.prog 32 #[.pointer (some ⟨b, 0, none⟩), .int .u8 c.toNat, .bool true] w fun e w' => e = .returned (.tuple #[]) ∧ RDoes w w' b { m with blanks := m.blanks ++ [c] } := by
  obtain ⟨c0, c1, c2, hf⟩ := rf_cells h
  have hf2 := hf 2
  have h1 := rf_blanks h (m.blanks ++ [c])
  have h2 := h1.trans (rf_alloc h1.1 (.cells #[.int .u8 c.toNat] 5))
  rw [← ba_snoc] at h2
  have HD := Lib.hid h2.drew
  have hcv : (convert 36 9 (.slice (some ⟨w.heap.size, 0, none⟩) 1 1)).run Try.prog ((w.alloc (.cells #[.int .u8 c.toNat] 5)).drew) = .ok (.string ⟨#[c]⟩) ((w.alloc (.cells #[.int .u8 c.toNat] 5)).drew) := conv_one w.drew c
  have s0 : (⟨m.blanks.toArray⟩ : ByteArray).size = m.blanks.length := by simp [ByteArray.size]
  have s1 : (m.blanks.length + 1 ≤ 9223372036854775807) = True := eq_true (by omega)
  have s2 : decide (m.blanks.length + 1 ≤ 9223372036854775807) = true := decide_eq_true (by omega)
  have s3 : (9223372036854775807 < m.blanks.length + 1) = False := eq_false (by omega)
  have ca : ∀ o, (w.alloc o).cell? ⟨b, 2, none⟩ = some (.string ⟨m.blanks.toArray⟩) := fun o => by
    rw [Lib.cell_of_heap ((Lib.alloc_old w o b (Buf.lt_of_heap h)).trans h)]; rfl
  have cf : ∀ o, (w.alloc o).frozen? ⟨b, 2, none⟩ = false := fun o => Lib.frozen_of_heap ((Lib.alloc_old w o b (Buf.lt_of_heap h)).trans h) 2
  have hlt := Buf.lt_of_heap h
  clear hf h1 h2 h
  rcases hcs with hc | hc | hc
  · have x0 : ((c.toNat : Int) == 0) = false := by rw [hc]; decide
    have x9 : ((c.toNat : Int) == 9) = true := by rw [hc]; decide
    have x10 : ((c.toNat : Int) == 10) = false := by rw [hc]; decide
    have x12 : ((c.toNat : Int) == 12) = false := by rw [hc]; decide
    have x13 : ((c.toNat : Int) == 13) = false := by rw [hc]; decide
    have x32 : ((c.toNat : Int) == 32) = false := by rw [hc]; decide
    clear hc
    go_enter Try.func32, Try.ntmps32
    go_wp2
    go_region
    go_wp2
    (try simp only [Exit.inBlock, Exit.then])
    refine bodyPost_ret (results_none rfl _ _ _) rfl ?_
    exact ⟨rfl, HD.out⟩
  · have x0 : ((c.toNat : Int) == 0) = false := by rw [hc]; decide
    have x9 : ((c.toNat : Int) == 9) = false := by rw [hc]; decide
    have x10 : ((c.toNat : Int) == 10) = false := by rw [hc]; decide
    have x12 : ((c.toNat : Int) == 12) = true := by rw [hc]; decide
    have x13 : ((c.toNat : Int) == 13) = false := by rw [hc]; decide
    have x32 : ((c.toNat : Int) == 32) = false := by rw [hc]; decide
    clear hc
    go_enter Try.func32, Try.ntmps32
    go_wp2
    go_region
    go_wp2
    (try simp only [Exit.inBlock, Exit.then])
    refine bodyPost_ret (results_none rfl _ _ _) rfl ?_
    exact ⟨rfl, HD.out⟩
  · have x0 : ((c.toNat : Int) == 0) = false := by rw [hc]; decide
    have x9 : ((c.toNat : Int) == 9) = false := by rw [hc]; decide
    have x10 : ((c.toNat : Int) == 10) = false := by rw [hc]; decide
    have x12 : ((c.toNat : Int) == 12) = false := by rw [hc]; decide
    have x13 : ((c.toNat : Int) == 13) = false := by rw [hc]; decide
    have x32 : ((c.toNat : Int) == 32) = true := by rw [hc]; decide
    clear hc
    go_enter Try.func32, Try.ntmps32
    go_wp2
    go_region
    go_wp2
    (try simp only [Exit.inBlock, Exit.then])
    refine bodyPost_ret (results_none rfl _ _ _) rfl ?_
    exact ⟨rfl, HD.out⟩
theorem ba_app (l r : List UInt8) : (⟨l.toArray⟩ : ByteArray) ++ (⟨r.toArray⟩ : ByteArray) = ⟨(l ++ r).toArray⟩ := by
  apply ByteArray.ext
  simp [ByteArray.data_append]
theorem not_blank_facts {c : UInt8} (h0 : c ≠ 0) (hb : isBlank c = false) : ((c.toNat : Int) == 0) = false ∧ ((c.toNat : Int) == 9) = false ∧ ((c.toNat : Int) == 10) = false ∧ ((c.toNat : Int) == 12) = false ∧ ((c.toNat : Int) == 13) = false ∧ ((c.toNat : Int) == 32) = false := by
  rcases c with ⟨⟨n⟩⟩
  revert n
  decide +kernel

set_option maxHeartbeats 4000000 in
set_option maxRecDepth 100000 in
theorem rput_word (h : Rf w b m) (k : Bool) (c : UInt8) (h0 : c ≠ 0) (hb : isBlank c = false) (hz : m.size ≤ 1000000000) : Calls Try.prog 32 #[.pointer (some ⟨b, 0, none⟩), .int .u8 c.toNat, .bool k] w fun e w' => e = .returned (.tuple #[]) ∧ RDoes w w' b (m.word c) := by
  obtain ⟨x0, x9, x10, x12, x13, x32⟩ := not_blank_facts h0 hb
  obtain ⟨c0, c1, c2, hf⟩ := rf_cells h
  have HH := Lib.hid h
  have HZ := Lib.hid hz
  by_cases ht : m.told = []
  · have q1 : ((⟨m.told.toArray⟩ : ByteArray).toList != []) = false := by rw [ByteArray.toList_eq, ht]; rfl
    have q2 : (m.told != []) = false := by rw [ht]; rfl
    have q3 : m.told.isEmpty = true := by rw [ht]; rfl
    have HM := Lib.hid (show m.word c = { told := m.told ++ [c], blanks := [], ends := 0 } by unfold M.word; rw [if_pos ht, ht])
    have hlen : m.told.length ≤ 1000000000 := by unfold M.size at hz; omega
    have hf0 := hf 0
    have hlt2 := Buf.lt_of_heap h
    have hcv : (convert 36 9 (.slice (some ⟨w.heap.size, 0, none⟩) 1 1)).run Try.prog ((w.alloc (.cells #[.int .u8 c.toNat] 5)).drew) = .ok (.string ⟨#[c]⟩) ((w.alloc (.cells #[.int .u8 c.toNat] 5)).drew) := conv_one w.drew c
    obtain ⟨t2, ht2⟩ : ∃ t2, m.told = t2 := ⟨_, rfl⟩
    have hq := h.refl.trans (rf_told h (m.told ++ [c]))
    have HQ : RDoes w ((w.setCell ⟨b, 0, none⟩ (.string ((⟨m.told.toArray⟩ : ByteArray) ++ (⟨#[c]⟩ : ByteArray)))).alloc (.cells #[.int .u8 c.toNat] 5)).drew b { m with told := m.told ++ [c] } := by
      rw [ba_snoc]
      exact (hq.trans (rf_alloc hq.1 _)).drew
    have ca : ∀ o, (w.alloc o).cell? ⟨b, 0, none⟩ = some (.string ⟨m.told.toArray⟩) := fun o => by
      rw [Lib.cell_of_heap ((Lib.alloc_old w o b hlt2).trans h)]; rfl
    have cf : ∀ o, (w.alloc o).frozen? ⟨b, 0, none⟩ = false := fun o => Lib.frozen_of_heap ((Lib.alloc_old w o b hlt2).trans h) 0
    rw [ht2] at HM HQ
    simp only [ht2] at c0 ca hlen q1 q2 q3
    have s0 : (⟨t2.toArray⟩ : ByteArray).size = t2.length := by simp [ByteArray.size]
    have s1 : (t2.length + 1 ≤ 9223372036854775807) = True := eq_true (by omega)
    have s2 : decide (t2.length + 1 ≤ 9223372036854775807) = true := decide_eq_true (by omega)
    have s3 : (9223372036854775807 < t2.length + 1) = False := eq_false (by omega)
    have HQ' := Lib.hid HQ
    clear HQ hq hf ht2 hlen ht h h0 hb hz
    go_enter Try.func32, Try.ntmps32
    go_wp2_with fail
    go_region
    have HQ := HQ'.out
    generalize ((w.setCell ⟨b, 0, none⟩ (.string ((⟨t2.toArray⟩ : ByteArray) ++ (⟨#[c]⟩ : ByteArray)))).alloc (.cells #[.int .u8 c.toNat] 5)).drew = w3 at HQ ⊢
    clear c0 c1 c2 hf0 ca cf hcv s0 s1 s2 s3 HQ'
    obtain ⟨c0, c1, c2, hf⟩ := rf_cells HQ.1
    have hf1 := hf 1
    have hf2 := hf 2
    have hq1 := HQ.trans (rf_ends HQ.1 0)
    have hq2 := Lib.hid (hq1.trans (rf_blanks hq1.1 []))
    clear hf HQ hq1
    go_wp2_with fail
    go_end0
    exact ⟨rfl, by rw [HM.out]; exact hq2.out⟩
  · have q1 : ((⟨m.told.toArray⟩ : ByteArray).toList != []) = true := by rw [ByteArray.toList_eq]; exact bne_iff_ne.2 ht
    have q2 : (m.told != []) = true := bne_iff_ne.2 ht
    have q3 : m.told.isEmpty = false := by cases hh : m.told <;> simp_all
    clear hf h h0 hb hz
    go_enter Try.func32, Try.ntmps32
    go_wp2_with fail
    go_loopg [6] (m.ends + 1) (fun kq v w' => ∃ i : Nat, v = .int .i64 i ∧ Hid (i ≤ m.ends) ∧ Hid (m.ends < i + kq) ∧ Hid (RDoes w w' b { m with told := m.told ++ List.replicate i 10 }))
    case atStart => exact ⟨0, rfl, Lib.hid (Nat.zero_le _), Lib.hid (by omega), Lib.hid (by simpa using HH.out.refl)⟩
    case round =>
      clear c0 c1 c2
      obtain ⟨i, rfl, HI, HK, HR⟩ := hrel
      have hi := HI.out
      obtain ⟨c0, c1, c2, hf⟩ := rf_cells HR.out.1
      have hf0 := hf 0
      by_cases hlt : i < m.ends
      · have d1 : decide ((i : Int) < (m.ends : Int)) = true := decide_eq_true (by omega)
        have d2 : decide (i < m.ends) = true := decide_eq_true hlt
        have hsz : (m.told ++ List.replicate i (10 : UInt8)).length ≤ 1000000000 := by have := HZ.out; unfold M.size at this; simp; omega
        have HN := Lib.hid (HR.out.trans (rf_told HR.out.1 (m.told ++ List.replicate (i + 1) 10)))
        obtain ⟨t, ht⟩ : ∃ t, m.told ++ List.replicate i (10 : UInt8) = t := ⟨_, rfl⟩
        have htn : m.told ++ List.replicate (i + 1) (10 : UInt8) = t ++ [10] := by rw [List.replicate_succ', ← List.append_assoc, ht]
        simp only [ht] at c0 hsz
        have HTN := Lib.hid htn
        rw [htn, ← ba_snoc] at HN
        have s0 : (⟨t.toArray⟩ : ByteArray).size = t.length := by simp [ByteArray.size]
        have s1 : (t.length + 1 ≤ 9223372036854775807) = True := eq_true (by omega)
        have s2 : decide (t.length + 1 ≤ 9223372036854775807) = true := decide_eq_true (by omega)
        have s3 : (9223372036854775807 < t.length + 1) = False := eq_false (by omega)
        clear hf ht htn hsz
        cases gk with
        | zero => exact absurd HK.out (by omega)
        | succ k1 =>
          have hi9 : i ≤ 1000000000 := by have := HZ.out; unfold M.size at this; omega
          go_wp2_with fail
          go_roundg k1
          case measure => omega
          case rel => exact ⟨i + 1, rfl, Lib.hid (by omega), Lib.hid (by have := HK.out; omega), Lib.hid (by rw [HTN.out]; exact HN.out)⟩
      · have d1 : decide ((i : Int) < (m.ends : Int)) = false := decide_eq_false (by omega)
        have d2 : decide (i < m.ends) = false := decide_eq_false hlt
        have hie : i = m.ends := by omega
        subst hie
        have hsz : (m.told ++ List.replicate m.ends (10 : UInt8)).length + m.blanks.length ≤ 1000000000 := by have := HZ.out; unfold M.size at this; simp; omega
        obtain ⟨t, htt⟩ : ∃ t, m.told ++ List.replicate m.ends (10 : UInt8) = t := ⟨_, rfl⟩
        have HM := Lib.hid (show m.word c = { told := t ++ m.blanks ++ [c], blanks := [], ends := 0 } by unfold M.word; rw [if_neg ht, htt])
        have hR := HR.out
        simp only [htt] at c0 hsz hR
        have HR2 := Lib.hid hR
        have s0 : (⟨t.toArray⟩ : ByteArray).size = t.length := by simp [ByteArray.size]
        have s4 : (⟨m.blanks.toArray⟩ : ByteArray).size = m.blanks.length := by simp [ByteArray.size]
        have s1 : (t.length + m.blanks.length ≤ 9223372036854775807) = True := eq_true (by omega)
        have s2 : decide (t.length + m.blanks.length ≤ 9223372036854775807) = true := decide_eq_true (by omega)
        have s3 : (9223372036854775807 < t.length + m.blanks.length) = False := eq_false (by omega)
        clear hf htt hR HR d1 d2 hlt HI HK
        have HN : RDoes w (wr.setCell ⟨b, 0, none⟩ (.string ⟨(t ++ m.blanks).toArray⟩)).drew b { m with told := t ++ m.blanks } := RDoes.drew (HR2.out.trans (rf_told HR2.out.1 (t ++ m.blanks)))
        rw [← ba_app] at HN
        go_wp2_with fail
        go_region
        generalize (wr.setCell ⟨b, 0, none⟩ (.string ((⟨t.toArray⟩ : ByteArray) ++ (⟨m.blanks.toArray⟩ : ByteArray)))).drew = w2 at HN ⊢
        have HN' : Hid (RDoes w w2 b { m with told := t ++ m.blanks }) := Lib.hid HN
        clear HN c0 c1 c2 hf0 s1 s2 s3 s4 s0
        obtain ⟨c0, c1, c2, hf⟩ := rf_cells HN'.out.1
        have hf0 := hf 0
        have hlt2 := Buf.lt_of_heap HN'.out.1
        have hcv : (convert 36 9 (.slice (some ⟨w2.heap.size, 0, none⟩) 1 1)).run Try.prog ((w2.alloc (.cells #[.int .u8 c.toNat] 5)).drew) = .ok (.string ⟨#[c]⟩) ((w2.alloc (.cells #[.int .u8 c.toNat] 5)).drew) := conv_one w2.drew c
        obtain ⟨t2, ht2⟩ : ∃ t2, t ++ m.blanks = t2 := ⟨_, rfl⟩
        rw [ht2] at HM HN'
        simp only [ht2] at c0
        have hlen : t2.length ≤ 1000000000 := by rw [← ht2]; simp; omega
        have s0 : (⟨t2.toArray⟩ : ByteArray).size = t2.length := by simp [ByteArray.size]
        have s1 : (t2.length + 1 ≤ 9223372036854775807) = True := eq_true (by omega)
        have s2 : decide (t2.length + 1 ≤ 9223372036854775807) = true := decide_eq_true (by omega)
        have s3 : (9223372036854775807 < t2.length + 1) = False := eq_false (by omega)
        have ca : ∀ o, (w2.alloc o).cell? ⟨b, 0, none⟩ = some (.string ⟨t2.toArray⟩) := fun o => by
          rw [Lib.cell_of_heap ((Lib.alloc_old w2 o b hlt2).trans HN'.out.1)]; rfl
        have cf : ∀ o, (w2.alloc o).frozen? ⟨b, 0, none⟩ = false := fun o => Lib.frozen_of_heap ((Lib.alloc_old w2 o b hlt2).trans HN'.out.1) 0
        have hq := HN'.out.trans (rf_told HN'.out.1 (t2 ++ [c]))
        have HQ : RDoes w ((w2.setCell ⟨b, 0, none⟩ (.string ((⟨t2.toArray⟩ : ByteArray) ++ (⟨#[c]⟩ : ByteArray)))).alloc (.cells #[.int .u8 c.toNat] 5)).drew b { m with told := t2 ++ [c] } := by
          rw [ba_snoc]
          exact (hq.trans (rf_alloc hq.1 _)).drew
        have HQ' := Lib.hid HQ
        clear HQ hq hf ht2 hlen hsz
        go_wp2_with fail
        go_region
        have HQ := HQ'.out
        generalize ((w2.setCell ⟨b, 0, none⟩ (.string ((⟨t2.toArray⟩ : ByteArray) ++ (⟨#[c]⟩ : ByteArray)))).alloc (.cells #[.int .u8 c.toNat] 5)).drew = w3 at HQ ⊢
        clear c0 c1 c2 hf0 ca cf hcv s0 s1 s2 s3 HQ'
        obtain ⟨c0, c1, c2, hf⟩ := rf_cells HQ.1
        have hf1 := hf 1
        have hf2 := hf 2
        have hq1 := HQ.trans (rf_ends HQ.1 0)
        have hq2 := Lib.hid (hq1.trans (rf_blanks hq1.1 []))
        clear hf HQ hq1
        go_wp2_with fail
        go_end0
        exact ⟨rfl, by rw [HM.out]; exact hq2.out⟩

theorem rput_at (h : Rf w b m) (k : Bool) (c : UInt8) (hz : m.size ≤ 1000000000) : Calls Try.prog 32 #[.pointer (some ⟨b, 0, none⟩), .int .u8 c.toNat, .bool k] w fun e w' => e = .returned (.tuple #[]) ∧ RDoes w w' b (m.put1 k c) := by
  have he : m.ends ≤ 1000000000 := by unfold M.size at hz; omega
  have hl : m.blanks.length ≤ 1000000000 := by unfold M.size at hz; omega
  unfold M.put1
  by_cases h0 : c = 0
  · rw [if_pos h0, h0]
    exact rput_zero h k
  · rw [if_neg h0]
    cases hb : isBlank c with
    | false =>
      rw [if_neg (by simp)]
      exact rput_word h k c h0 hb hz
    | true =>
      rw [if_pos rfl]
      cases k with
      | false =>
        simp only [Bool.false_eq_true, if_false]
        exact rput_lose h c h0 hb
      | true =>
        rw [if_pos rfl]
        unfold M.keep
        by_cases hn : c = 10 ∨ c = 13
        · rw [if_pos hn]
          exact rput_line h c hn he
        · rw [if_neg hn]
          refine rput_blank h c ?_ hl
          have hc : c = 9 ∨ c = 10 ∨ c = 12 ∨ c = 13 ∨ c = 32 := by
            rcases c with ⟨⟨n⟩⟩
            revert n
            decide +kernel
          rcases hc with e | e | e | e | e
          · exact Or.inl e
          · exact absurd (Or.inl e) hn
          · exact Or.inr (Or.inl e)
          · exact absurd (Or.inr e) hn
          · exact Or.inr (Or.inr e)
end
end Go.Proofs.Ytaejicolhliecaa.Flow
