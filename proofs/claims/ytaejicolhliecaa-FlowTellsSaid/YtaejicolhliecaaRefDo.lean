/- The document's own flow: what is done to it is what the model says. -/
import Derived.Test.YtaejicolhliecaaRefFlow
import Derived.Deep.RegionWith
set_option linter.unusedVariables false
namespace Go.Proofs.Ytaejicolhliecaa.Flow
open Go.RowKit Go.Lib Go.Proofs.Ytaejicolhliecaa.Buf Go.Proofs.Ytaejicolhliecaa.PFl Go.Proofs.YtaejicolhliecaaW.PrintWords Go.Proofs.Ytaejicolhliecaa.HandFlowWords

def abox (a : Flow.Act) : Obj := .cells #[.int .i64 a.kind, .string a.s, .bool a.keep, .int .i64 a.n] 32

section
variable {w : World} {b : Nat} {m : M}

set_option maxHeartbeats 4000000 in
set_option maxRecDepth 100000 in
theorem rdo_brk (h : Rf w b m) (a : Flow.Act) (hk : a.kind = 1) (he : m.ends ≤ 1000000000) : Calls Try.prog 19 #[.pointer (some ⟨b, 0, none⟩), a.val] w fun e w' => e = .returned (.tuple #[]) ∧ RDoes w w' b (m.brk a.n) := by
  obtain ⟨c0, c1, c2, hf⟩ := rf_cells h
  have hlt := Buf.lt_of_heap h
  have ca1 : ∀ o, (w.alloc o).cell? ⟨b, 1, none⟩ = some (.int .i64 m.ends) := fun o => by
    rw [Lib.cell_of_heap ((Lib.alloc_old w o b hlt).trans h)]; rfl
  have ca2 : ∀ o, (w.alloc o).cell? ⟨b, 2, none⟩ = some (.string ⟨m.blanks.toArray⟩) := fun o => by
    rw [Lib.cell_of_heap ((Lib.alloc_old w o b hlt).trans h)]; rfl
  have cf : ∀ o j, (w.alloc o).frozen? ⟨b, j, none⟩ = false := fun o j => Lib.frozen_of_heap ((Lib.alloc_old w o b hlt).trans h) j
  have cf1 := fun o => cf o 1
  have cf2 := fun o => cf o 2
  have hf1 := hf 1
  have hf2 := hf 2
  have k1 : (a.kind == 1) = true := by rw [hk]; rfl
  have k2 : (a.kind == 2) = false := by rw [hk]; rfl
  have k0 : (a.kind != 0) = true := by rw [hk]; rfl
  unfold Act.val
  by_cases hgt : (m.ends : Int) < min a.n 100
  · have d1 : decide ((m.ends : Int) < min a.n 100) = true := decide_eq_true hgt
    have hb : m.brk a.n = { m with ends := (min a.n 100).toNat, blanks := [] } := by
      unfold M.brk
      congr 1
      omega
    have h1 := rf_ends h (min a.n 100).toNat
    rw [show (((min a.n 100).toNat : Nat) : Int) = min a.n 100 by omega] at h1
    have h2 := h1.trans (rf_blanks h1.1 [])
    have HD := Lib.hid (h2.trans (rf_alloc h2.1 (abox a)))
    have HB := Lib.hid hb
    clear hf cf h h1 h2 hb hgt hk
    go_enter Try.func19, Try.ntmps19
    go_wp2_with fail
    (try simp only [Exit.inBlock, Exit.then])
    refine bodyPost_ret (results_none rfl _ _ _) rfl ?_
    exact ⟨rfl, by rw [HB.out]; exact HD.out⟩
  · have d1 : decide ((m.ends : Int) < min a.n 100) = false := decide_eq_false hgt
    have hb : m.brk a.n = { m with blanks := [] } := by
      unfold M.brk
      congr 1
      omega
    have h2 := rf_blanks h []
    have HD := Lib.hid (h2.trans (rf_alloc h2.1 (abox a)))
    have HB := Lib.hid hb
    clear hf cf h h2 hb hgt hk
    go_enter Try.func19, Try.ntmps19
    go_wp2_with fail
    (try simp only [Exit.inBlock, Exit.then])
    refine bodyPost_ret (results_none rfl _ _ _) rfl ?_
    exact ⟨rfl, by rw [HB.out]; exact HD.out⟩

set_option maxHeartbeats 4000000 in
set_option maxRecDepth 100000 in
theorem rdo_line (h : Rf w b m) (a : Flow.Act) (hk : a.kind = 2) (he : m.ends ≤ 1000000000) : Calls Try.prog 19 #[.pointer (some ⟨b, 0, none⟩), a.val] w fun e w' => e = .returned (.tuple #[]) ∧ RDoes w w' b m.line := by
  obtain ⟨c0, c1, c2, hf⟩ := rf_cells h
  have hlt := Buf.lt_of_heap h
  have ca1 : ∀ o, (w.alloc o).cell? ⟨b, 1, none⟩ = some (.int .i64 m.ends) := fun o => by
    rw [Lib.cell_of_heap ((Lib.alloc_old w o b hlt).trans h)]; rfl
  have ca2 : ∀ o, (w.alloc o).cell? ⟨b, 2, none⟩ = some (.string ⟨m.blanks.toArray⟩) := fun o => by
    rw [Lib.cell_of_heap ((Lib.alloc_old w o b hlt).trans h)]; rfl
  have cf : ∀ o j, (w.alloc o).frozen? ⟨b, j, none⟩ = false := fun o j => Lib.frozen_of_heap ((Lib.alloc_old w o b hlt).trans h) j
  have cf1 := fun o => cf o 1
  have cf2 := fun o => cf o 2
  have hf1 := hf 1
  have hf2 := hf 2
  have k1 : (a.kind == 1) = false := by rw [hk]; rfl
  have k2 : (a.kind == 2) = true := by rw [hk]; rfl
  have k0 : (a.kind != 0) = true := by rw [hk]; rfl
  have h1 := rf_ends h (m.ends + 1)
  have h2 := h1.trans (rf_blanks h1.1 [])
  have h3 := h2.trans (rf_alloc h2.1 (abox a))
  rw [Int.natCast_add] at h3
  have HD := Lib.hid h3
  unfold Act.val
  clear hf cf h h1 h2 h3 hk
  go_enter Try.func19, Try.ntmps19
  go_wp2_with fail
  (try simp only [Exit.inBlock, Exit.then])
  refine bodyPost_ret (results_none rfl _ _ _) rfl ?_
  exact ⟨rfl, HD.out⟩

set_option maxHeartbeats 4000000 in
set_option maxRecDepth 100000 in
theorem rdo_none (h : Rf w b m) (a : Flow.Act) (h0 : a.kind ≠ 0) (h1 : a.kind ≠ 1) (h2 : a.kind ≠ 2) : Calls Try.prog 19 #[.pointer (some ⟨b, 0, none⟩), a.val] w fun e w' => e = .returned (.tuple #[]) ∧ RDoes w w' b m := by
  have k1 : (a.kind == 1) = false := beq_eq_false_iff_ne.2 h1
  have k2 : (a.kind == 2) = false := beq_eq_false_iff_ne.2 h2
  have k0 : (a.kind != 0) = true := bne_iff_ne.2 h0
  have HD := Lib.hid (rf_alloc h (abox a))
  unfold Act.val
  clear h h0 h1 h2
  go_enter Try.func19, Try.ntmps19
  go_wp2_with fail
  (try simp only [Exit.inBlock, Exit.then])
  refine bodyPost_ret (results_none rfl _ _ _) rfl ?_
  exact ⟨rfl, HD.out⟩

theorem rput_d {w0 : World} (h : Hid (RDoes w0 w b m)) (k : Bool) (c : UInt8) (hz : Hid (m.size ≤ 1000000000)) : Calls Try.prog 32 #[.pointer (some ⟨b, 0, none⟩), .int .u8 c.toNat, .bool k] w.drew fun e w' => e = .returned (.tuple #[]) ∧ Hid (RDoes w0 w' b (m.put1 k c)) := by
  refine (rput_at (w := w.drew) (m := m) h.out.1 k c hz.out).mono ?_
  rintro e w' ⟨h1, h2⟩
  exact ⟨h1, Lib.hid (h.out.drew.trans h2)⟩

set_option maxHeartbeats 4000000 in
set_option maxRecDepth 100000 in
theorem rdo_put (h : Rf w b m) (a : Flow.Act) (hk : a.kind = 0) (hz : m.size + a.s.size ≤ 1000000000) : Calls Try.prog 19 #[.pointer (some ⟨b, 0, none⟩), a.val] w fun e w' => e = .returned (.tuple #[]) ∧ RDoes w w' b (m.put a.keep a.s.data.toList) := by
  have k1 : (a.kind == 1) = false := by rw [hk]; rfl
  have k2 : (a.kind == 2) = false := by rw [hk]; rfl
  have k0 : (a.kind != 0) = false := by rw [hk]; rfl
  have hlt := Buf.lt_of_heap h
  have HZ := Lib.hid hz
  have HW := Lib.hid (rf_alloc h (abox a))
  have hnew : (w.alloc (abox a)).heap[w.heap.size]? = some (abox a) := heap_alloc_new w _
  have hss : a.s.size ≤ 1000000000 := by omega
  unfold Act.val
  clear h hk hz
  go_enter Try.func19, Try.ntmps19
  go_wp2_with fail
  go_loopg [5] (a.s.size + 1) (fun kq v w' => ∃ i : Nat, v = .int .i64 i ∧ Hid (i ≤ a.s.size) ∧ Hid (a.s.size < i + kq) ∧ Hid (RDoes (w.alloc (abox a)) w' b (m.put a.keep (a.s.data.toList.take i))))
  case atStart => exact ⟨0, rfl, Lib.hid (Nat.zero_le _), Lib.hid (by omega), Lib.hid (Rf.refl HW.out.1)⟩
  case round =>
    obtain ⟨i, rfl, HI, HK, HR⟩ := hrel
    have hi := HI.out
    have hbox : wr.heap[w.heap.size]? = some (abox a) := (HR.out.2.block w.heap.size (by simp) (by omega)).trans hnew
    have b1 : wr.cell? ⟨w.heap.size, 1, none⟩ = some (.string a.s) := by rw [Lib.cell_of_heap (show wr.heap[w.heap.size]? = some (.cells #[.int .i64 a.kind, .string a.s, .bool a.keep, .int .i64 a.n] 32) from hbox)]; rfl
    have b2 : wr.cell? ⟨w.heap.size, 2, none⟩ = some (.bool a.keep) := by rw [Lib.cell_of_heap (show wr.heap[w.heap.size]? = some (.cells #[.int .i64 a.kind, .string a.s, .bool a.keep, .int .i64 a.n] 32) from hbox)]; rfl
    have HNEW := Lib.hid hnew
    clear hnew hbox
    by_cases hlt2 : i < a.s.size
    · have d1 : decide ((i : Int) < (a.s.size : Int)) = true := decide_eq_true (by omega)
      have d2 : decide (i < a.s.size) = true := decide_eq_true hlt2
      obtain ⟨c, hc⟩ : ∃ c, a.s[i]'hlt2 = c := ⟨_, rfl⟩
      have HP := Lib.hid (put_take a.keep m a.s i hlt2)
      rw [hc] at HP
      have hsz := put_size a.keep (a.s.data.toList.take i) m
      have HS1 := Lib.hid (show (m.put a.keep (a.s.data.toList.take i)).size ≤ 1000000000 by have := HZ.out; simp at hsz; omega)
      clear hsz
      cases gk with
      | zero => exact absurd HK.out (by omega)
      | succ k1 =>
        go_wp2_with fail
        go_region_with (go_at_call 32; refine (rput_d HR a.keep c HS1).mono ?_; rintro e w2 ⟨rfl, HN⟩)
        all_goals (
          go_wp2_with fail
          go_roundg k1
          case measure => omega
          case rel => exact ⟨i + 1, rfl, Lib.hid (by omega), Lib.hid (by have := HK.out; omega), Lib.hid (by rw [HP.out]; exact HN.out)⟩)
    · have d1 : decide ((i : Int) < (a.s.size : Int)) = false := decide_eq_false (by omega)
      have d2 : decide (i < a.s.size) = false := decide_eq_false hlt2
      have hie : i = a.s.data.toList.length := by simp; omega
      have HF := Lib.hid (show RDoes w wr b (m.put a.keep a.s.data.toList) by have h1 := HR.out; rw [hie, List.take_length] at h1; exact HW.out.trans h1)
      clear hie
      go_wp2_with fail
      go_end0
      exact ⟨rfl, HF.out⟩

theorem rdo_at (h : Rf w b m) (a : Flow.Act) (hz : m.size + a.s.size ≤ 900000000) : Calls Try.prog 19 #[.pointer (some ⟨b, 0, none⟩), a.val] w fun e w' => e = .returned (.tuple #[]) ∧ RDoes w w' b (m.does a) := by
  have he : m.ends ≤ 1000000000 := by unfold M.size at hz; omega
  unfold M.does
  by_cases h0 : a.kind = 0
  · rw [if_pos h0]
    exact rdo_put h a h0 (by omega)
  · rw [if_neg h0]
    by_cases h1 : a.kind = 1
    · rw [if_pos h1]
      exact rdo_brk h a h1 he
    · rw [if_neg h1]
      by_cases h2 : a.kind = 2
      · rw [if_pos h2]
        exact rdo_line h a h2 he
      · rw [if_neg h2]
        exact rdo_none h a h0 h1 h2
end
end Go.Proofs.Ytaejicolhliecaa.Flow
