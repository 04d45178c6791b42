/- A flow as it lies: a block of four cells (the builder's two, how many ends wait, the blanks), with the rows of what is told and of the blanks; and what its small methods do to it. -/
import Derived.Test.YtaejicolhliecaaBuf2
import Derived.Test.YtaejicolhliecaaShelf
set_option linter.unusedVariables false
namespace Go.Proofs.Ytaejicolhliecaa.Flow
open Go.RowKit Go.Lib Go.Proofs.Ytaejicolhliecaa.Buf

/-- What a flow holds: what is told, the blanks, how many ends wait. -/
structure M where
  told : List UInt8
  blanks : List UInt8
  ends : Nat

def M.line (m : M) : M := { m with ends := m.ends + 1, blanks := [] }
def M.brk (n : Int) (m : M) : M := { m with ends := max m.ends (min n 100).toNat, blanks := [] }
def M.lose (m : M) : M := if m.ends = 0 ∧ m.blanks = [] then { m with blanks := [32] } else m
def M.keep (c : UInt8) (m : M) : M := if c = 10 ∨ c = 13 then m.line else { m with blanks := m.blanks ++ [c] }
def M.word (c : UInt8) (m : M) : M := { told := (if m.told = [] then [] else m.told ++ List.replicate m.ends 10 ++ m.blanks) ++ [c], blanks := [], ends := 0 }
def isBlank (c : UInt8) : Bool := c == 9 || c == 10 || c == 12 || c == 13 || c == 32
def M.put1 (k : Bool) (c : UInt8) (m : M) : M := if c = 0 then m else if isBlank c = true then (if k = true then m.keep c else m.lose) else m.word c
def M.put (k : Bool) (s : List UInt8) (m : M) : M := s.foldl (fun m c => m.put1 k c) m

/-- The block b of the world is a flow with this in it; all that is its own lies in the blocks of F. -/
structure IsF (w : World) (b : Nat) (F : Nat → Prop) (a v l : Value) (m : M) : Prop where
  heap : w.heap[b]? = some (.cells #[a, v, .int .i64 m.ends, l] 62 (0, 0))
  addr : a = .pointer none ∨ a = .pointer (some ⟨b, 0, none⟩)
  told : w.ownsRowF 0 5 1 v m.told.length (byteCells m.told)
  blanks : w.ownsRowF 0 5 1 l m.blanks.length (byteCells m.blanks)
  nv : v.ownBlock ≠ some b
  nl : l.ownBlock ≠ some b
  apart : ∀ k, v.ownBlock = some k → l.ownBlock ≠ some k
  fb : F b
  fv : ∀ k, v.ownBlock = some k → F k
  fl : ∀ k, l.ownBlock = some k → F k
  fin : ∀ k, F k → k < w.heap.size

def Fl (w : World) (b : Nat) (F : Nat → Prop) (m : M) : Prop := ∃ a v l, IsF w b F a v l m

/-- What another did leaves it alone. -/
theorem Fl.kp {w w' : World} {b : Nat} {F G : Nat → Prop} {m : M} (h : Fl w b F m) (hk : Kp G w w') (hd : ∀ k, F k → ¬ G k) : Fl w' b F m := by
  obtain ⟨a, v, l, h⟩ := h
  refine ⟨a, v, l, (hk.block b (Buf.lt_of_heap h.heap) (hd b h.fb)).trans h.heap, h.addr, ownsF_kp h.told hk (fun k e => hd k (h.fv k e)), ownsF_kp h.blanks hk (fun k e => hd k (h.fl k e)), h.nv, h.nl, h.apart, h.fb, h.fv, h.fl, fun k hf => Nat.lt_of_lt_of_le (h.fin k hf) hk.size⟩

theorem liesF : liesAt Try.prog Try.prog.depth 62 (4 / Try.prog.cellsOf 62) 0 60 1 = true := by kernel_rfl
theorem IsF.at {w : World} {b : Nat} {F : Nat → Prop} {a v l : Value} {m : M} (h : IsF w b F a v l m) : At w 62 b #[a, v, .int .i64 m.ends, l] v := ⟨h.heap, by simpa using h.addr, rfl, liesF⟩

/-- What a method leaves: the flow with m' in it; writes into F's blocks alone; of the flow's own all is F's, or new. -/
def Does (w w' : World) (b : Nat) (F : Nat → Prop) (m' : M) : Prop := ∃ F', Fl w' b F' m' ∧ Kp F w w' ∧ ∀ k, F' k → F k ∨ w.heap.size ≤ k

section
variable {w : World} {b : Nat} {F : Nat → Prop} {m : M}

theorem cells_of {a v l : Value} (h : IsF w b F a v l m) : w.cell? ⟨b, 2, none⟩ = some (.int .i64 m.ends) ∧ w.cell? ⟨b, 3, none⟩ = some l ∧ (∀ j, w.frozen? ⟨b, j, none⟩ = false) := by
  refine ⟨?_, ?_, fun j => Lib.frozen_of_heap h.heap j⟩
  · rw [Lib.cell_of_heap h.heap]; rfl
  · rw [Lib.cell_of_heap h.heap]; rfl

/-- The two last cells written anew, the blanks to nil. -/
theorem two_set {a v l : Value} (h : IsF w b F a v l m) (n : Nat) : Does w ((w.setCell ⟨b, 2, none⟩ (.int .i64 n)).setCell ⟨b, 3, none⟩ (.slice none 0 0)) b F { m with ends := n, blanks := [] } := by
  have hk : Kp F w ((w.setCell ⟨b, 2, none⟩ (.int .i64 n)).setCell ⟨b, 3, none⟩ (.slice none 0 0)) := ((Kp.refl F w).setCell (p := ⟨b, 2, none⟩) h.fb _).setCell (p := ⟨b, 3, none⟩) h.fb _
  have hk' : Kp (fun k => k = b) w ((w.setCell ⟨b, 2, none⟩ (.int .i64 n)).setCell ⟨b, 3, none⟩ (.slice none 0 0)) := ((Kp.refl (fun k => k = b) w).setCell (p := ⟨b, 2, none⟩) rfl _).setCell (p := ⟨b, 3, none⟩) rfl _
  have h1 := heap_setCell_self (heap_setCell_self h.heap (j := 2) (.int .i64 n)) (j := 3) (.slice none 0 0)
  refine ⟨F, ⟨a, v, .slice none 0 0, h1, h.addr, ownsF_kp h.told hk' (fun k e hb => h.nv (hb ▸ e)), ⟨by simp [byteCells], .inl ⟨rfl, rfl⟩⟩, h.nv, by simp [Value.ownBlock], fun k _ => by simp [Value.ownBlock], h.fb, h.fv, by simp [Value.ownBlock], fun k hf => Nat.lt_of_lt_of_le (h.fin k hf) hk.size⟩, hk, fun k hf => Or.inl hf⟩

set_option maxHeartbeats 1000000 in
set_option maxRecDepth 100000 in
theorem line_at (h : Fl w b F m) (hb : m.ends ≤ 1000000000) : Calls Try.prog 23 #[.pointer (some ⟨b, 0, none⟩)] w fun e w' => e = .returned (.tuple #[]) ∧ Does w w' b F m.line := by
  obtain ⟨a, v, l, h⟩ := h
  obtain ⟨c2, c3, hf⟩ := cells_of h
  have hf2 := hf 2
  have hf3 := hf 3
  have hd := two_set h (m.ends + 1)
  rw [Int.natCast_add] at hd
  have HD := Lib.hid hd
  clear h hf hd
  go_enter Try.func23, Try.ntmps23
  go_wp2
  go_end0
  exact ⟨rfl, HD.out⟩

set_option maxHeartbeats 1000000 in
set_option maxRecDepth 100000 in
theorem brk_at (h : Fl w b F m) (hb : m.ends ≤ 1000000000) (n : Int) (hn : (Lit.int .i64 n).wf = true) : Calls Try.prog 24 #[.pointer (some ⟨b, 0, none⟩), .int .i64 n] w fun e w' => e = .returned (.tuple #[]) ∧ Does w w' b F (m.brk n) := by
  obtain ⟨a, v, l, h⟩ := h
  obtain ⟨c2, c3, hf⟩ := cells_of h
  have hf2 := hf 2
  have hf3 := hf 3
  have hd := two_set h (max m.ends (min n 100).toNat)
  have e : ((max m.ends (min n 100).toNat : Nat) : Int) = max (m.ends : Int) (min n 100) := by omega
  rw [e] at hd
  have HD := Lib.hid hd
  clear h hf hd e
  go_enter Try.func24, Try.ntmps24
  go_wp2
  go_end0
  exact ⟨rfl, HD.out⟩

theorem lose_set {a v l : Value} (h : IsF w b F a v l m) : Does w ((w.setCell ⟨b, 3, none⟩ (.slice (some ⟨w.heap.size, 0, none⟩) 1 1)).alloc (.cells #[.int .u8 32] 5)) b F { m with blanks := [32] } := by
  have hlt := Buf.lt_of_heap h.heap
  have hs0 : (w.setCell ⟨b, 3, none⟩ (.slice (some ⟨w.heap.size, 0, none⟩) 1 1)).heap.size = w.heap.size := by simp [World.setCell]
  have hk : Kp (fun k => k = b) w ((w.setCell ⟨b, 3, none⟩ (.slice (some ⟨w.heap.size, 0, none⟩) 1 1)).alloc (.cells #[.int .u8 32] 5)) := ((Kp.refl (fun k => k = b) w).setCell (p := ⟨b, 3, none⟩) rfl _).alloc _
  have h1 : ((w.setCell ⟨b, 3, none⟩ (.slice (some ⟨w.heap.size, 0, none⟩) 1 1)).alloc (.cells #[.int .u8 32] 5)).heap[b]? = some (.cells (#[a, v, .int .i64 m.ends, l].setIfInBounds 3 (.slice (some ⟨w.heap.size, 0, none⟩) 1 1)) 62 (0, 0)) := (Lib.alloc_old _ _ b (by omega)).trans (heap_setCell_self h.heap (j := 3) (.slice (some ⟨w.heap.size, 0, none⟩) 1 1))
  have hnew : ((w.setCell ⟨b, 3, none⟩ (.slice (some ⟨w.heap.size, 0, none⟩) 1 1)).alloc (.cells #[.int .u8 32] 5)).heap[w.heap.size]? = some (.cells #[.int .u8 32] 5 (0, 0)) := by
    have := heap_alloc_new (w.setCell ⟨b, 3, none⟩ (.slice (some ⟨w.heap.size, 0, none⟩) 1 1)) (.cells #[.int .u8 32] 5)
    rw [hs0] at this
    exact this
  refine ⟨fun k => F k ∨ k = w.heap.size, ⟨a, v, _, h1, h.addr, ownsF_kp h.told hk (fun k e hb => h.nv (hb ▸ e)), ⟨rfl, .inr ⟨w.heap.size, 1, #[.int .u8 32], (0, 0), rfl, Nat.zero_le _, hnew, Nat.zero_le _, Nat.le_refl _, by decide, rfl, rfl⟩⟩, h.nv, ?_, ?_, Or.inl h.fb, fun k e => Or.inl (h.fv k e), ?_, ?_⟩, hk.mono (fun k _ e => by rw [e]; exact h.fb), ?_⟩
  · simp [Value.ownBlock]; omega
  · intro k e
    have := h.fin k (h.fv k e)
    simp [Value.ownBlock]; omega
  · intro k e
    simp [Value.ownBlock] at e
    exact Or.inr e.symm
  · intro k e
    have hs := hk.size
    rcases e with e | e
    · exact Nat.lt_of_lt_of_le (h.fin k e) hs
    · subst e
      simp [World.setCell]
  · rintro k (e | e)
    · exact Or.inl e
    · exact Or.inr (by omega)

theorem does_refl (h : Fl w b F m) : Does w w b F m := ⟨F, h, Kp.refl F w, fun k hf => Or.inl hf⟩

set_option maxHeartbeats 1000000 in
set_option maxRecDepth 100000 in
theorem lose_at (h : Fl w b F m) (hb : m.ends ≤ 1000000000) (c : Int) : Calls Try.prog 34 #[.pointer (some ⟨b, 0, none⟩), .int .u8 c] w fun e w' => e = .returned (.tuple #[]) ∧ Does w w' b F m.lose := by
  have hr := does_refl h
  obtain ⟨a, v, l, h⟩ := h
  obtain ⟨c2, c3, hf⟩ := cells_of h
  have hf2 := hf 2
  have hf3 := hf 3
  obtain ⟨ao, cap, rfl⟩ := own_slice w h.blanks
  have hd := lose_set h
  have hlt := Buf.lt_of_heap h.heap
  have ca : ∀ o, (w.alloc o).cell? ⟨b, 3, none⟩ = some (.slice ao m.blanks.length cap) := fun o => by
    rw [Lib.cell_of_heap ((Lib.alloc_old w o b hlt).trans h.heap)]; rfl
  have cf : ∀ o, (w.alloc o).frozen? ⟨b, 3, none⟩ = false := fun o => Lib.frozen_of_heap ((Lib.alloc_old w o b hlt).trans h.heap) 3
  have HD := Lib.hid hd
  have HR := Lib.hid hr
  have HM := Lib.hid (show m.lose = if m.ends = 0 ∧ m.blanks = [] then { m with blanks := [32] } else m from rfl)
  clear h hf hd hr
  by_cases h1 : m.ends = 0
  · have d1 : ((m.ends : Int) == 0) = true := by rw [h1]; rfl
    by_cases h2 : m.blanks = []
    · have d2 : ((m.blanks.length : Int) == 0) = true := by rw [h2]; rfl
      rw [if_pos ⟨h1, h2⟩] at HM
      clear h1 h2
      go_enter Try.func34, Try.ntmps34
      go_wp2
      go_end0
      exact ⟨rfl, by rw [HM.out]; exact HD.out⟩
    · have d2 : ((m.blanks.length : Int) == 0) = false := by
        rw [beq_eq_false_iff_ne]
        intro e
        exact h2 (List.length_eq_zero_iff.1 (by omega))
      rw [if_neg (fun e => h2 e.2)] at HM
      clear h1 h2
      go_enter Try.func34, Try.ntmps34
      go_wp2
      go_end0
      exact ⟨rfl, by rw [HM.out]; exact HR.out⟩
  · have d1 : ((m.ends : Int) == 0) = false := by
      rw [beq_eq_false_iff_ne]
      intro e
      exact h1 (by omega)
    rw [if_neg (fun e => h1 e.1)] at HM
    clear h1
    go_enter Try.func34, Try.ntmps34
    go_wp2
    go_end0
    exact ⟨rfl, by rw [HM.out]; exact HR.out⟩
end
end Go.Proofs.Ytaejicolhliecaa.Flow
