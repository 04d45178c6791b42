/- Several texts of this claim, laid together into one file. -/
import Derived.Test.YteccaekalcjihaaGreatDoorLotI
import Derived.Deep.RegionWith
import Derived.LoopTactic
import Derived.Deep.LoopGhost
import Derived.Lib.SliceRun
import Derived.Laws.OwnMore
import Derived.RangeFuncNested
import Derived.RangeFuncBound
import Derived.RangeFuncCalls
import Derived.RangeFuncLeaves
import Derived.RangeFuncBox
import Derived.Shelf.Abstract
import Derived.Shelf.RegionOpen
import Derived.WalkKit
import Derived.OwnWalkIn
import Derived.TacticsInMore
import Derived.LoopNIn
import Derived.LoopIn
import Derived.Deep.RegionHeld3
import Derived.Deep.AppendLies
import Derived.Deep.RegionLaw
set_option linter.unusedSimpArgs false
set_option linter.unusedVariables false
set_option linter.unusedVariables false
namespace Go.Proofs.YteccaekalcjihaaGreatDoor.Flow
open Go.RowKit Go.Lib Go.Proofs.YteccaekalcjihaaGreatDoor.Buf
theorem Does.trans {w w1 w2 : World} {b : Nat} {F F1 : Nat → Prop} {m2 : M} (hk : Kp F w w1) (hF : ∀ k, F1 k → F k ∨ w.heap.size ≤ k) (h : Does w1 w2 b F1 m2) : Does w w2 b F m2 := by
  obtain ⟨F2, h2, hk2, hF2⟩ := h
  refine ⟨F2, h2, hk.trans hk2 (fun k hlt hf => ?_), fun k hf => ?_⟩
  · rcases hF k hf with h | h
    · exact h
    · omega
  · rcases hF2 k hf with h | h
    · exact hF k h
    · exact Or.inr (Nat.le_trans hk.size h)
section
variable {w : World} {b : Nat} {F : Nat → Prop} {m : M}
theorem blanks_set {a v l : Value} (h : IsF w b F a v l m) {w2 : World} {l' : Value} {bl : List UInt8} (hk : Kp (fun k => l.ownBlock = some k) w w2) (ho : w2.ownsRowF 0 5 1 l' bl.length (byteCells bl)) (hat : ∀ k, l'.ownBlock = some k → l.ownBlock = some k ∨ w.heap.size ≤ k) :
    Does w (w2.setCell ⟨b, 3, none⟩ l') b F { m with blanks := bl } := by
  have hlt := Buf.lt_of_heap h.heap
  have h0 : w2.heap[b]? = some (.cells #[a, v, .int .i64 m.ends, l] 119 (0, 0)) := (hk.block b hlt h.nl).trans h.heap
  have h1 := heap_setCell_self h0 (j := 3) l'
  have hk0 : Kp (fun k => k = b) w2 (w2.setCell ⟨b, 3, none⟩ l') := (Kp.refl (fun k => k = b) w2).setCell (p := ⟨b, 3, none⟩) rfl _
  have hkF : Kp F w (w2.setCell ⟨b, 3, none⟩ l') := (hk.mono (fun k _ e => h.fl k e)).setCell (p := ⟨b, 3, none⟩) h.fb _
  have hnb : l'.ownBlock ≠ some b := fun e => by
    rcases hat b e with h' | h'
    · exact h.nl h'
    · omega
  have ho2 : (w2.setCell ⟨b, 3, none⟩ l').ownsRowF 0 5 1 l' bl.length (byteCells bl) := ownsF_kp ho hk0 (fun k e hb => hnb (hb ▸ e))
  have ht2 : (w2.setCell ⟨b, 3, none⟩ l').ownsRowF 0 5 1 v m.told.length (byteCells m.told) := ownsF_kp (ownsF_kp h.told hk (fun k e => h.apart k e)) hk0 (fun k e hb => h.nv (hb ▸ e))
  refine ⟨fun k => F k ∨ l'.ownBlock = some k, ⟨a, v, l', h1, h.addr, ht2, ho2, h.nv, hnb, ?_, Or.inl h.fb, fun k e => Or.inl (h.fv k e), fun k e => Or.inr e, ?_⟩, hkF, ?_⟩
  · intro k e e2
    rcases hat k e2 with h' | h'
    · exact h.apart k e h'
    · have := h.fin k (h.fv k e)
      omega
  · rintro k (e | e)
    · exact Nat.lt_of_lt_of_le (h.fin k e) hkF.size
    · exact (ho2.lt k e).2
  · rintro k (e | e)
    · exact Or.inl e
    · exact (hat k e).imp (h.fl k) id
theorem told_set {a v l : Value} (h : IsF w b F a v l m) {w' : World} {v' : Value} {tl : List UInt8} (hb' : w'.heap[b]? = some (.cells ((#[a, v, .int .i64 m.ends, l].setIfInBounds 0 (.pointer (some ⟨b, 0, none⟩))).setIfInBounds 1 v') 119 (0, 0)))
    (ho : w'.ownsRowF 0 5 1 v' tl.length (byteCells tl)) (hat : ∀ k, v'.ownBlock = some k → v.ownBlock = some k ∨ w.heap.size ≤ k) (hnb : v'.ownBlock ≠ some b) (hk : Kp (fun k => k = b ∨ v.ownBlock = some k) w w') : Does w w' b F { m with told := tl } := by
  have hlt := Buf.lt_of_heap h.heap
  have hkF : Kp F w w' := hk.mono (fun k _ e => e.elim (fun e => e ▸ h.fb) (h.fv k))
  refine ⟨fun k => F k ∨ v'.ownBlock = some k, ⟨.pointer (some ⟨b, 0, none⟩), v', l, hb', Or.inr rfl, ho, ownsF_kp h.blanks hk ?_, hnb, h.nl, ?_, Or.inl h.fb, fun k e => Or.inr e, fun k e => Or.inl (h.fl k e), ?_⟩, hkF, ?_⟩
  · rintro k e (e2 | e2)
    · exact h.nl (e2 ▸ e)
    · exact h.apart k e2 e
  · intro k e e2
    rcases hat k e with h' | h'
    · exact h.apart k h' e2
    · have := h.fin k (h.fl k e2)
      omega
  · rintro k (e | e)
    · exact Nat.lt_of_lt_of_le (h.fin k e) hkF.size
    · exact (ho.lt k e).2
  · rintro k (e | e)
    · exact Or.inl e
    · exact (hat k e).imp (h.fv k) id
theorem cells_length (l : List UInt8) : (byteCells l).length = l.length := by simp [byteCells]
theorem cells_app (l r : List UInt8) : byteCells (l ++ r) = byteCells l ++ byteCells r := by simp [byteCells]
theorem str_cells (s : ByteArray) : strCells s = byteCells s.data.toList := by simp [strCells, byteCells]
theorem str_fl (h : Fl w b F m) (s : ByteArray) (hl : m.told.length + s.size ≤ 140737488355328) : Calls Tryz.prog 26 #[.pointer (some ⟨b, 0, none⟩), .string s] w fun e w' => e = .returned (.tuple #[.int .i64 s.size, .nilIface]) ∧ Does w w' b F { m with told := m.told ++ s.data.toList } := by
  obtain ⟨a, v, l, h⟩ := h
  refine (writeString_at (bs := byteCells m.told) h.at (by rw [cells_length]; exact h.told) h.nv (by decide) s (by rw [cells_length]; exact hl)).mono ?_
  rintro e w' ⟨rfl, v', h1, h2, h3, h4, h5⟩
  refine ⟨rfl, told_set h h1 ?_ h3 h4 h5⟩
  rw [cells_app, ← str_cells, List.length_append]
  rw [cells_length] at h2
  have : s.data.toList.length = s.size := by simp
  rw [this]
  exact h2
theorem byte_fl (h : Fl w b F m) (c : UInt8) (hl : m.told.length + 1 ≤ 140737488355328) : Calls Tryz.prog 23 #[.pointer (some ⟨b, 0, none⟩), .int .u8 c.toNat] w fun e w' => e = .returned .nilIface ∧ Does w w' b F { m with told := m.told ++ [c] } := by
  obtain ⟨a, v, l, h⟩ := h
  refine (writeByte_at (bs := byteCells m.told) h.at (by rw [cells_length]; exact h.told) h.nv (by decide) c.toNat (by rw [cells_length]; exact hl)).mono ?_
  rintro e w' ⟨rfl, v', h1, h2, h3, h4, h5⟩
  refine ⟨rfl, told_set h h1 ?_ h3 h4 h5⟩
  rw [cells_app, List.length_append]
  rw [cells_length] at h2
  exact h2
theorem len_fl (h : Fl w b F m) : Calls Tryz.prog 152 #[.pointer (some ⟨b, 0, none⟩)] w fun e w' => e = .returned (.int .i64 m.told.length) ∧ w' = w := by
  obtain ⟨a, v, l, h⟩ := h
  have := len_at (bs := byteCells m.told) h.heap rfl (by rw [cells_length]; exact h.told)
  rw [cells_length] at this
  exact this
theorem blanks_fl {a v l : Value} (h : IsF w b F a v l m) (hl : m.told.length + m.blanks.length ≤ 140737488355328) : Calls Tryz.prog 154 #[.pointer (some ⟨b, 0, none⟩), l] w fun e w' => e = .returned (.tuple #[.int .i64 m.blanks.length, .nilIface]) ∧ Does w w' b F { m with told := m.told ++ m.blanks } := by
  have h' := h
  rcases h.blanks.2 with ⟨rfl, hn⟩ | ⟨g, cap, cur, fz, rfl, hbg, hg, _, _, _, _, _⟩
  · refine (write_none_at (bs := byteCells m.told) h.at (by rw [cells_length]; exact h.told) h.nv (by decide)).mono ?_
    rintro e w' ⟨rfl, v', h1, h2, h3, h4, h5⟩
    have hb0 : m.blanks = [] := List.length_eq_zero_iff.1 hn
    refine ⟨by rw [hn]; rfl, told_set h h1 ?_ h3 h4 h5⟩
    rw [hb0, List.append_nil]
    rw [cells_length] at h2
    exact h2
  · refine (write_at (bs := byteCells m.told) h.at (by rw [cells_length]; exact h.told) h.nv (by decide) (xs := byteCells m.blanks) (h.blanks.cells (g := g) rfl) (cells_length _) ?_ (Buf.lt_of_heap hg) (fun e => h.nl (by rw [e]; rfl)) (by rw [cells_length]; exact hl)).mono ?_
    · intro u hu
      simp only [byteCells, List.mem_map] at hu
      obtain ⟨x, _, rfl⟩ := hu
      rfl
    · rintro e w' ⟨rfl, v', h1, h2, h3, h4, h5⟩
      refine ⟨rfl, told_set h h1 ?_ h3 h4 h5⟩
      rw [cells_app, List.length_append]
      rw [cells_length] at h2
      exact h2
set_option maxHeartbeats 2000000 in
set_option maxRecDepth 100000 in
theorem keep_other (h : Fl w b F m) (c : UInt8) (h10 : c ≠ 10) (h13 : c ≠ 13) (hl : m.blanks.length + 1 ≤ 140737488355328) : Calls Tryz.prog 101 #[.pointer (some ⟨b, 0, none⟩), .int .u8 c.toNat] w fun e w' => e = .returned (.tuple #[]) ∧ Does w w' b F (m.keep c) := by
  obtain ⟨i0, hi, hz0, hz1, hz2⟩ := info_parts infoByte
  have hm : m.keep c = { m with blanks := m.blanks ++ [c] } := by
    unfold M.keep
    rw [if_neg (by rintro (e | e); exact h10 e; exact h13 e)]
  have d1 : ((c.toNat : Int) == 10) = false := by
    rw [beq_eq_false_iff_ne]
    intro e
    exact h10 (UInt8.toNat_inj.1 (by simpa using (by omega : c.toNat = 10)))
  have d2 : ((c.toNat : Int) == 13) = false := by
    rw [beq_eq_false_iff_ne]
    intro e
    exact h13 (UInt8.toNat_inj.1 (by simpa using (by omega : c.toNat = 13)))
  obtain ⟨a, v, l, h⟩ := h
  obtain ⟨c2, c3, hf⟩ := cells_of h
  have hlt := Buf.lt_of_heap h.heap
  have HI := Lib.hid h
  have HO1 := Lib.hid (h.blanks.alloc (.cells #[.int .u8 c.toNat] 5))
  have HN := Lib.hid (news_one (heap_alloc_new w (.cells #[.int .u8 c.toNat] 5)))
  have hone := one_cell c.toNat
  have HM := Lib.hid hm
  clear h hf c2 h10 h13 hm
  go_enter Tryz.func101, Tryz.ntmps101
  go_wp2_with (at_builtin; refine Stop.out (?_ : Stop _))
  refine Stop.mk ?_
  refine wp_append_cells _ rfl _ _ 22 rfl 5 i0 Tryz.underlying22 hi hz0 hz1 hz2 _ _ _ ?hv HO1.out _ 1 1 [.int .u8 c.toNat] ?hx rfl HN.out hone hl ?_
  case hv => rfl
  case hx => rfl
  intro l' w2 ho' hgrow hat
  have hk0 : Kp (fun k => l.ownBlock = some k) w w2 := ((Kp.refl _ w).alloc _).grown hgrow (fun k hk => Or.inl hk)
  have hat' : ∀ k, l'.ownBlock = some k → l.ownBlock = some k ∨ w.heap.size ≤ k := fun k hk => (hat k hk).imp id (fun h => by simp at h; omega)
  have hd := blanks_set HI.out hk0 (bl := m.blanks ++ [c]) (by rw [cells_app, List.length_append]; exact ho') hat'
  have h2 : w2.heap[b]? = some (.cells #[a, v, .int .i64 m.ends, l] 119 (0, 0)) := (hk0.block b hlt HI.out.nl).trans HI.out.heap
  have c3' : w2.cell? ⟨b, 3, none⟩ = some l := by rw [Lib.cell_of_heap h2]; rfl
  have f3' : w2.frozen? ⟨b, 3, none⟩ = false := Lib.frozen_of_heap h2 3
  have HD := Lib.hid hd
  obtain ⟨ao, cap, rfl⟩ := own_slice w2 ho'
  clear hd h2 hk0 hat hat' ho' c3
  go_wp2
  go_end0
  exact ⟨rfl, by rw [HM.out]; exact HD.out⟩
set_option maxHeartbeats 2000000 in
set_option maxRecDepth 100000 in
theorem keep_line (h : Fl w b F m) (c : UInt8) (hc : c = 10 ∨ c = 13) (hb : m.ends ≤ 1000000000) : Calls Tryz.prog 101 #[.pointer (some ⟨b, 0, none⟩), .int .u8 c.toNat] w fun e w' => e = .returned (.tuple #[]) ∧ Does w w' b F (m.keep c) := by
  have hm : m.keep c = m.line := by
    unfold M.keep
    rw [if_pos hc]
  rw [hm]
  have H := Lib.hid (line_at h hb)
  clear hm h
  rcases hc with rfl | rfl
  · have d1 : (((10 : UInt8).toNat : Int) == 10) = true := by decide
    go_enter Tryz.func101, Tryz.ntmps101
    go_wp2_with (go_at_call 148; refine H.out.mono ?_)
    rintro e w' ⟨rfl, hd⟩
    go_wp2
    (try simp only [Exit.inBlock, Exit.then])
    refine bodyPost_ret (results_none rfl _ _ _) rfl ?_
    exact ⟨rfl, hd⟩
  · have d1 : (((13 : UInt8).toNat : Int) == 10) = false := by decide
    have d2 : (((13 : UInt8).toNat : Int) == 13) = true := by decide
    go_enter Tryz.func101, Tryz.ntmps101
    go_wp2_with (go_at_call 148; refine H.out.mono ?_)
    rintro e w' ⟨rfl, hd⟩
    go_wp2
    (try simp only [Exit.inBlock, Exit.then])
    refine bodyPost_ret (results_none rfl _ _ _) rfl ?_
    exact ⟨rfl, hd⟩
theorem keep_at (h : Fl w b F m) (c : UInt8) (hb : m.ends ≤ 1000000000) (hl : m.blanks.length ≤ 1000000000) : Calls Tryz.prog 101 #[.pointer (some ⟨b, 0, none⟩), .int .u8 c.toNat] w fun e w' => e = .returned (.tuple #[]) ∧ Does w w' b F (m.keep c) := by
  by_cases h10 : c = 10
  · exact keep_line h c (Or.inl h10) hb
  by_cases h13 : c = 13
  · exact keep_line h c (Or.inr h13) hb
  exact keep_other h c h10 h13 (by omega)
theorem index_blank (c : UInt8) : decide (0 ≤ Lib.indexByte [9, 10, 12, 13, 32] c) = isBlank c := by
  rcases c with ⟨⟨n⟩⟩
  revert n
  decide +kernel
set_option maxHeartbeats 2000000 in
set_option maxRecDepth 100000 in
theorem blank_at (c : UInt8) (w : World) : Calls Tryz.prog 102 #[.int .u8 c.toNat] w fun e w' => e = .returned (.bool (isBlank c)) ∧ w' = w := by
  have H := Tryz.strings_IndexByte ⟨#[9, 10, 12, 13, 32]⟩ c.toNat w
  have e1 : ((c.toNat : Int)).toNat.toUInt8 = c := by simp
  rw [e1] at H
  have hi := index_blank c
  have HH := Lib.hid H
  clear H e1
  go_enter Tryz.func102, Tryz.ntmps102
  go_wp2_with (go_at_call 65; refine HH.out.mono ?_)
  go_ret
  exact ⟨rfl, rfl⟩
theorem fl_below (h : Fl w b F m) {w1 : World} (hb : Below w.heap.size w.drew w1) : Fl w1 b F m := h.kp (G := fun _ => False) (Kp.of_below (w := w) (w' := w1) ⟨hb.os, hb.tape, hb.output, hb.size, hb.block⟩ _) (fun _ _ h => h)
theorem kp_below (F : Nat → Prop) {w1 : World} (hb : Below w.heap.size w.drew w1) : Kp F w w1 := Kp.of_below (w := w) (w' := w1) ⟨hb.os, hb.tape, hb.output, hb.size, hb.block⟩ F
theorem rep_ten : ∀ c, Lib.repeatL [10] c = List.replicate c 10
  | 0 => rfl
  | c + 1 => by simp [Lib.repeatL, rep_ten c, List.replicate_succ]
theorem repeat_at (c : Nat) (hc : c ≤ 1000000000) (w : World) : Calls Tryz.prog 153 #[.string ⟨#[10]⟩, .int .i64 c] w fun e w' => e = .returned (.string ⟨(List.replicate c (10 : UInt8)).toArray⟩) ∧ Below w.heap.size w w' := by
  have h := Tryz.strings_Repeat ⟨#[10]⟩ c w (by omega) (by show 1 * c ≤ _; omega)
  have e : Lib.repeatL (⟨#[10]⟩ : ByteArray).data.toList c = List.replicate c 10 := rep_ten c
  rw [e] at h
  exact h
theorem repeat_d (h : Fl w b F m) (hc : m.ends ≤ 1000000000) : Calls Tryz.prog 153 #[.string ⟨#[10]⟩, .int .i64 m.ends] w.drew fun e w' => e = .returned (.string ⟨(List.replicate m.ends (10 : UInt8)).toArray⟩) ∧ Hid (Fl w' b F m) ∧ Hid (Kp F w w') := by
  refine (repeat_at m.ends hc w.drew).mono ?_
  rintro e w' ⟨h1, h2⟩
  exact ⟨h1, Lib.hid (fl_below h h2), Lib.hid (kp_below F h2)⟩
theorem str_d (h : Hid (Fl w b F m)) (hl : Hid (m.told.length + (⟨(List.replicate m.ends (10 : UInt8)).toArray⟩ : ByteArray).size ≤ 140737488355328)) : Calls Tryz.prog 26 #[.pointer (some ⟨b, 0, none⟩), .string ⟨(List.replicate m.ends (10 : UInt8)).toArray⟩] w fun e w' => e = .returned (.tuple #[.int .i64 (⟨(List.replicate m.ends (10 : UInt8)).toArray⟩ : ByteArray).size, .nilIface]) ∧ Hid (Does w w' b F { m with told := m.told ++ List.replicate m.ends 10 }) := by
  refine (str_fl h.out _ hl.out).mono ?_
  rintro e w' ⟨h1, h2⟩
  exact ⟨h1, Lib.hid h2⟩
theorem blanks_d {a v l : Value} (h : Hid (IsF w b F a v l m)) (hl : Hid (m.told.length + m.blanks.length ≤ 140737488355328)) : Calls Tryz.prog 154 #[.pointer (some ⟨b, 0, none⟩), l] w.drew fun e w' => e = .returned (.tuple #[.int .i64 m.blanks.length, .nilIface]) ∧ Hid (Does w w' b F { m with told := m.told ++ m.blanks }) := by
  have h' : IsF w.drew b F a v l m := ⟨h.out.heap, h.out.addr, h.out.told, h.out.blanks, h.out.nv, h.out.nl, h.out.apart, h.out.fb, h.out.fv, h.out.fl, h.out.fin⟩
  refine (blanks_fl h' hl.out).mono ?_
  rintro e w' ⟨h1, F', h2, hk, hF⟩
  exact ⟨h1, Lib.hid ⟨F', h2, ⟨hk.os, hk.tape, hk.output, hk.size, hk.block⟩, hF⟩⟩
set_option maxHeartbeats 2000000 in
set_option maxRecDepth 100000 in
theorem word_first (h : Fl w b F m) (c : UInt8) (h0 : m.told = []) : Calls Tryz.prog 103 #[.pointer (some ⟨b, 0, none⟩), .int .u8 c.toNat] w fun e w' => e = .returned (.tuple #[]) ∧ Does w w' b F (m.word c) := by
  have HL := Lib.hid (len_fl h)
  have HW := Lib.hid (byte_fl h c (by rw [h0]; decide))
  have hm : m.word c = { told := m.told ++ [c], blanks := [], ends := 0 } := by
    unfold M.word
    rw [if_pos h0, h0]
  have HM := Lib.hid hm
  have d1 : decide ((0 : Int) < (m.told.length : Int)) = false := by rw [h0]; rfl
  have d2 : decide (0 < m.told.length) = false := by rw [h0]; rfl
  clear hm h0
  go_enter Tryz.func103, Tryz.ntmps103
  go_wp2_with (go_at_call 152; refine HL.out.mono ?_)
  rintro e w' ⟨rfl, rfl⟩
  go_wp2_with (go_at_call 23; refine HW.out.mono ?_)
  rintro e w1 ⟨rfl, F1, ⟨a1, v1, l1, h1⟩, hk1, hF1⟩
  obtain ⟨c2, c3, hf⟩ := cells_of h1
  have f2 := hf 2
  have f3 := hf 3
  have HD := Lib.hid (Does.trans hk1 hF1 (two_set h1 0))
  clear h1 hk1 hF1 hf
  go_wp2
  go_end0
  exact ⟨rfl, by rw [HM.out]; exact HD.out⟩
set_option maxHeartbeats 4000000 in
set_option maxRecDepth 100000 in
theorem word_later (h : Fl w b F m) (c : UInt8) (h0 : m.told ≠ []) (hb : m.told.length + m.ends + m.blanks.length ≤ 1000000000) : Calls Tryz.prog 103 #[.pointer (some ⟨b, 0, none⟩), .int .u8 c.toNat] w fun e w' => e = .returned (.tuple #[]) ∧ Does w w' b F (m.word c) := by
  have HL := Lib.hid (len_fl h)
  have HR := Lib.hid (repeat_at m.ends (by omega) w)
  have hm : m.word c = { told := m.told ++ List.replicate m.ends 10 ++ m.blanks ++ [c], blanks := [], ends := 0 } := by
    unfold M.word
    rw [if_neg h0]
  have HM := Lib.hid hm
  have hpos : 0 < m.told.length := List.length_pos_iff.2 h0
  have d1 : decide ((0 : Int) < (m.told.length : Int)) = true := decide_eq_true (by omega)
  have d2 : decide (0 < m.told.length) = true := decide_eq_true hpos
  have HF := Lib.hid h
  obtain ⟨a, v, l, hi⟩ := h
  obtain ⟨c2, c3, hf⟩ := cells_of hi
  clear hm h0 hi c3 hf
  have HE := Lib.hid (show m.ends ≤ 1000000000 by omega)
  have HS := Lib.hid (show m.told.length + (⟨(List.replicate m.ends (10 : UInt8)).toArray⟩ : ByteArray).size ≤ 140737488355328 by simp [ByteArray.size]; omega)
  go_enter Tryz.func103, Tryz.ntmps103
  go_wp2_with (go_at_call 152; refine HL.out.mono ?_)
  rintro e w' ⟨rfl, rfl⟩
  go_wp2_with fail
  go_region_with (first | (go_at_call 153; refine (repeat_d HF.out HE.out).mono ?_; rintro e w1 ⟨rfl, H1, K1⟩) | (go_at_call 26; refine (str_d H1 HS).mono ?_; rintro e w2 ⟨rfl, HD2⟩))
  obtain ⟨F2, ⟨a2, v2, l2, h2⟩, hk2, hF2⟩ := HD2.out
  have c3 := (cells_of h2).2.1
  have H2 := Lib.hid h2
  have HS2 := Lib.hid (show (m.told ++ List.replicate m.ends (10 : UInt8)).length + m.blanks.length ≤ 140737488355328 by simp; omega)
  clear h2
  obtain ⟨ao, cap, rfl⟩ := own_slice w2 H2.out.blanks
  go_wp2_with fail
  go_region_with (go_at_call 154; refine (blanks_d H2 HS2).mono ?_; rintro e w3 ⟨rfl, HD3⟩)
  obtain ⟨F3, h3, hk3, hF3⟩ := HD3.out
  have hl3 : (m.told ++ List.replicate m.ends (10 : UInt8) ++ m.blanks).length + 1 ≤ 140737488355328 := by simp; omega
  generalize hm3 : (M.mk (m.told ++ List.replicate m.ends 10 ++ m.blanks) m.blanks m.ends) = m3 at h3
  have ht3 : m3.told = m.told ++ List.replicate m.ends 10 ++ m.blanks := by rw [← hm3]
  rw [← ht3] at hl3
  have HM3 := Lib.hid (show M.word c m = { told := m3.told ++ [c], blanks := [], ends := 0 } by rw [HM.out, ht3])
  clear hm3 ht3 HD3
  have HC := Lib.hid (byte_fl h3 c hl3)
  clear hl3
  go_wp2_with (go_at_call 23; refine HC.out.mono ?_)
  rintro e w4 ⟨rfl, F4, ⟨a4, v4, l4, h4⟩, hk4, hF4⟩
  obtain ⟨c2, c3, hf⟩ := cells_of h4
  have f2 := hf 2
  have f3 := hf 3
  have hD4 := Does.trans hk4 hF4 (two_set h4 0)
  have hD3 := Does.trans hk3 hF3 hD4
  have hD2 := Does.trans hk2 hF2 hD3
  have HD := Lib.hid (Does.trans K1.out (fun k hf => Or.inl hf) hD2)
  clear h3 h4 hk2 hk3 hk4 hF2 hF3 hF4 hD4 hD3 hD2 hf
  go_wp2
  go_end0
  exact ⟨rfl, by rw [HM3.out]; exact HD.out⟩
theorem word_at (h : Fl w b F m) (c : UInt8) (hb : m.told.length + m.ends + m.blanks.length ≤ 1000000000) : Calls Tryz.prog 103 #[.pointer (some ⟨b, 0, none⟩), .int .u8 c.toNat] w fun e w' => e = .returned (.tuple #[]) ∧ Does w w' b F (m.word c) := by
  by_cases h0 : m.told = []
  · exact word_first h c h0
  · exact word_later h c h0 hb
end
end Go.Proofs.YteccaekalcjihaaGreatDoor.Flow
set_option linter.unusedVariables false
namespace Go.Proofs.YteccaekalcjihaaGreatDoor.Flow
open Go.RowKit Go.Lib Go.Proofs.YteccaekalcjihaaGreatDoor.Buf
def M.size (m : M) : Nat := m.told.length + m.ends + m.blanks.length
def M.none : M := ⟨[], [], 0⟩
theorem line_size (m : M) : m.line.size ≤ m.size + 1 := by simp [M.line, M.size]; omega
theorem brk_size (n : Int) (m : M) : (m.brk n).size ≤ m.size + 100 := by simp [M.brk, M.size]; omega
theorem lose_size (m : M) : m.lose.size ≤ m.size + 1 := by
  unfold M.lose
  split
  · rename_i h
    simp [M.size, h.2]
  · simp [M.size]
theorem keep_size (c : UInt8) (m : M) : (m.keep c).size ≤ m.size + 1 := by
  unfold M.keep
  split
  · exact line_size m
  · simp [M.size]; omega
theorem word_size (c : UInt8) (m : M) : (m.word c).size ≤ m.size + 1 := by
  unfold M.word M.size
  split <;> simp <;> omega
theorem put1_size (k : Bool) (c : UInt8) (m : M) : (m.put1 k c).size ≤ m.size + 1 := by
  unfold M.put1
  split
  · omega
  · split
    · split
      · exact keep_size c m
      · exact lose_size m
    · exact word_size c m
theorem put_size (k : Bool) : ∀ (s : List UInt8) (m : M), (m.put k s).size ≤ m.size + s.length
  | [], m => by simp [M.put]
  | c :: s, m => by
    have h1 := put_size k s (m.put1 k c)
    have h2 := put1_size k c m
    simp only [M.put, List.foldl_cons, List.length_cons] at h1 ⊢
    omega
theorem put_snoc (k : Bool) (s : List UInt8) (c : UInt8) (m : M) : m.put k (s ++ [c]) = (m.put k s).put1 k c := by simp [M.put]
section
variable {w : World} {b : Nat} {F : Nat → Prop} {m : M}
set_option maxHeartbeats 1000000 in
set_option maxRecDepth 100000 in
theorem new_at (w : World) : Calls Tryz.prog 37 #[] w fun e w' => e = .returned (.pointer (some ⟨w.heap.size, 0, none⟩)) ∧ w' = w.alloc (.cells #[.pointer none, .slice none 0 0, .int .i64 0, .slice none 0 0] 119) := by
  go_enter Tryz.func37, Tryz.ntmps37
  go_wp2
  go_ret
  exact ⟨rfl, rfl⟩
theorem new_fl (w : World) : Fl (w.alloc (.cells #[.pointer none, .slice none 0 0, .int .i64 0, .slice none 0 0] 119)) w.heap.size (fun k => k = w.heap.size) M.none :=
  ⟨_, _, _, heap_alloc_new w _, Or.inl rfl, ⟨rfl, .inl ⟨rfl, rfl⟩⟩, ⟨rfl, .inl ⟨rfl, rfl⟩⟩, by simp [Value.ownBlock], by simp [Value.ownBlock], fun k _ => by simp [Value.ownBlock], rfl, by simp [Value.ownBlock], by simp [Value.ownBlock], fun k e => by subst e; simp⟩
set_option maxHeartbeats 1000000 in
set_option maxRecDepth 100000 in
theorem text_at (h : Fl w b F m) : Calls Tryz.prog 42 #[.pointer (some ⟨b, 0, none⟩)] w fun e w' => e = .returned (.string ⟨m.told.toArray⟩) ∧ Fl w' b F m ∧ Kp F w w' := by
  obtain ⟨a, v, l, h⟩ := h
  have HS := Lib.hid (string_at (l := m.told) h.heap rfl h.told h.nv)
  have HI := Lib.hid h
  clear h
  go_enter Tryz.func42, Tryz.ntmps42
  go_wp2_with (go_at_call 22; refine HS.out.mono ?_)
  rintro e w' ⟨rfl, h1, h2, h3⟩
  have hk := h3.mono (G := F) (fun k _ e => HI.out.fv k e)
  have hf : Fl w' b F m := ⟨a, v, l, h1, HI.out.addr, h2, ownsF_kp HI.out.blanks h3 (fun k e e2 => HI.out.apart k e2 e), HI.out.nv, HI.out.nl, HI.out.apart, HI.out.fb, HI.out.fv, HI.out.fl, fun k e => Nat.lt_of_lt_of_le (HI.out.fin k e) hk.size⟩
  go_wp2
  go_ret
  exact ⟨rfl, hf, hk⟩
theorem take_snoc (s : ByteArray) (i : Nat) (h : i < s.size) : s.data.toList.take (i + 1) = s.data.toList.take i ++ [s[i]'h] := by
  have hl : i < s.data.toList.length := by simpa using h
  rw [List.take_succ_eq_append_getElem hl]
  rfl
theorem put_take (k : Bool) (m : M) (s : ByteArray) (i : Nat) (h : i < s.size) : m.put k (s.data.toList.take (i + 1)) = (m.put k (s.data.toList.take i)).put1 k (s[i]'h) := by
  rw [take_snoc s i h, put_snoc]
set_option maxHeartbeats 4000000 in
set_option maxRecDepth 100000 in
theorem put_false (h : Fl w b F m) (s : ByteArray) (hb : m.size + s.size ≤ 1000000000) : Calls Tryz.prog 41 #[.pointer (some ⟨b, 0, none⟩), .string s, .bool false] w fun e w' => e = .returned (.tuple #[]) ∧ Does w w' b F (m.put false s.data.toList) := by
  have HH := Lib.hid h
  have HB := Lib.hid hb
  have hs : s.size ≤ 1000000000 := by omega
  clear h hb
  go_enter Tryz.func41, Tryz.ntmps41
  go_wp2_with fail
  go_loopg [12] (s.size + 1) (fun kq v12 w' => ∃ i : Nat, v12 = .int .i64 i ∧ Hid (i ≤ s.size) ∧ Hid (s.size < i + kq) ∧ Hid (Does w w' b F (m.put false (s.data.toList.take i))))
  case atStart => exact ⟨0, rfl, Lib.hid (Nat.zero_le _), Lib.hid (by omega), Lib.hid ⟨F, HH.out, Kp.refl F w, fun k h => Or.inl h⟩⟩
  case round =>
    obtain ⟨i, rfl, HI, HK, HD⟩ := hrel
    have hi := HI.out
    by_cases hlt : i < s.size
    · have d1 : decide ((i : Int) < (s.size : Int)) = true := decide_eq_true (by omega)
      have d2 : decide (i < s.size) = true := decide_eq_true hlt
      obtain ⟨c, hc⟩ : ∃ c, s[i]'hlt = c := ⟨_, rfl⟩
      have hsn := take_snoc s i hlt
      rw [hc] at hsn
      have HP := Lib.hid (put_take false m s i hlt)
      rw [hc] at HP
      have HZ := Lib.hid (put_size false (s.data.toList.take i) m)
      clear hsn
      obtain ⟨F1, h1, hk1, hF1⟩ := HD.out
      have hlen : (s.data.toList.take i).length ≤ s.size := by simp; omega
      have HS1 := Lib.hid (show (m.put false (s.data.toList.take i)).size ≤ 1000000000 by have := HB.out; have := HZ.out; omega)
      clear hlen HZ HD
      generalize m.put false (s.data.toList.take i) = m1 at h1 HP HS1
      cases gk with
      | zero => exact absurd HK.out (by omega)
      | succ k1 =>
        by_cases hz : c = 0
        · have z1 : ((c.toNat : Int) == 0) = true := by rw [hz]; rfl
          have hp1 : m1.put1 false c = m1 := by unfold M.put1; rw [if_pos hz]
          have HR := Lib.hid (show Does w wr b F (m.put false (s.data.toList.take (i + 1))) by rw [HP.out, hp1]; exact ⟨F1, h1, hk1, hF1⟩)
          clear hz hp1 h1 hk1 hF1
          go_wp2_with fail
          go_roundg k1
          case measure => omega
          case rel => exact ⟨i + 1, rfl, Lib.hid (by omega), Lib.hid (by have := HK.out; omega), HR⟩
        · have z1 : ((c.toNat : Int) == 0) = false := by
            rw [beq_eq_false_iff_ne]
            intro e
            exact hz (UInt8.toNat_inj.1 (by simpa using (by omega : c.toNat = 0)))
          have hbl := blank_at c
          cases hB : isBlank c with
          | true =>
            rw [hB] at hbl
            have hp1 : m1.put1 false c = m1.lose := by unfold M.put1; rw [if_neg hz, if_pos hB]; rfl
            have HC := Lib.hid (lose_at h1 (by have := HS1.out; unfold M.size at this; omega) c.toNat)
            have HBL := Lib.hid hbl
            clear hz hB hbl h1
            go_wp2_with (go_at_call 102; refine (HBL.out _).mono ?_)
            rintro e w1' ⟨rfl, rfl⟩
            go_wp2_with (go_at_call 100; refine HC.out.mono ?_)
            rintro e w2 ⟨rfl, hd2⟩
            have HR := Lib.hid (show Does w w2 b F (m.put false (s.data.toList.take (i + 1))) by rw [HP.out, hp1]; exact Does.trans hk1 hF1 hd2)
            clear hp1 hk1 hF1 hd2 HC
            go_wp2_with fail
            go_roundg k1
            case measure => omega
            case rel => exact ⟨i + 1, rfl, Lib.hid (by omega), Lib.hid (by have := HK.out; omega), HR⟩
          | false =>
            rw [hB] at hbl
            have hp1 : m1.put1 false c = m1.word c := by unfold M.put1; rw [if_neg hz, if_neg (by rw [hB]; simp)]
            have HC := Lib.hid (word_at h1 c HS1.out)
            have HBL := Lib.hid hbl
            clear hz hB hbl h1
            go_wp2_with (go_at_call 102; refine (HBL.out _).mono ?_)
            rintro e w1' ⟨rfl, rfl⟩
            go_wp2_with (go_at_call 103; refine HC.out.mono ?_)
            rintro e w2 ⟨rfl, hd2⟩
            have HR := Lib.hid (show Does w w2 b F (m.put false (s.data.toList.take (i + 1))) by rw [HP.out, hp1]; exact Does.trans hk1 hF1 hd2)
            clear hp1 hk1 hF1 hd2 HC
            go_wp2_with fail
            go_roundg k1
            case measure => omega
            case rel => exact ⟨i + 1, rfl, Lib.hid (by omega), Lib.hid (by have := HK.out; omega), HR⟩
    · have d1 : decide ((i : Int) < (s.size : Int)) = false := decide_eq_false (by omega)
      have d2 : decide (i < s.size) = false := decide_eq_false hlt
      have hie : i = s.data.toList.length := by simp; omega
      have HR := Lib.hid (show Does w wr b F (m.put false s.data.toList) by have h := HD.out; rw [hie, List.take_length] at h; exact h)
      clear HD hie
      go_wp2_with fail
      go_end0
      exact ⟨rfl, HR.out⟩
set_option maxHeartbeats 4000000 in
set_option maxRecDepth 100000 in
theorem put_true (h : Fl w b F m) (s : ByteArray) (hb : m.size + s.size ≤ 1000000000) : Calls Tryz.prog 41 #[.pointer (some ⟨b, 0, none⟩), .string s, .bool true] w fun e w' => e = .returned (.tuple #[]) ∧ Does w w' b F (m.put true s.data.toList) := by
  have HH := Lib.hid h
  have HB := Lib.hid hb
  have hs : s.size ≤ 1000000000 := by omega
  clear h hb
  go_enter Tryz.func41, Tryz.ntmps41
  go_wp2_with fail
  go_loopg [12] (s.size + 1) (fun kq v12 w' => ∃ i : Nat, v12 = .int .i64 i ∧ Hid (i ≤ s.size) ∧ Hid (s.size < i + kq) ∧ Hid (Does w w' b F (m.put true (s.data.toList.take i))))
  case atStart => exact ⟨0, rfl, Lib.hid (Nat.zero_le _), Lib.hid (by omega), Lib.hid ⟨F, HH.out, Kp.refl F w, fun k h => Or.inl h⟩⟩
  case round =>
    obtain ⟨i, rfl, HI, HK, HD⟩ := hrel
    have hi := HI.out
    by_cases hlt : i < s.size
    · have d1 : decide ((i : Int) < (s.size : Int)) = true := decide_eq_true (by omega)
      have d2 : decide (i < s.size) = true := decide_eq_true hlt
      obtain ⟨c, hc⟩ : ∃ c, s[i]'hlt = c := ⟨_, rfl⟩
      have hsn := take_snoc s i hlt
      rw [hc] at hsn
      have HP := Lib.hid (put_take true m s i hlt)
      rw [hc] at HP
      have HZ := Lib.hid (put_size true (s.data.toList.take i) m)
      clear hsn
      obtain ⟨F1, h1, hk1, hF1⟩ := HD.out
      have hlen : (s.data.toList.take i).length ≤ s.size := by simp; omega
      have HS1 := Lib.hid (show (m.put true (s.data.toList.take i)).size ≤ 1000000000 by have := HB.out; have := HZ.out; omega)
      clear hlen HZ HD
      generalize m.put true (s.data.toList.take i) = m1 at h1 HP HS1
      cases gk with
      | zero => exact absurd HK.out (by omega)
      | succ k1 =>
        by_cases hz : c = 0
        · have z1 : ((c.toNat : Int) == 0) = true := by rw [hz]; rfl
          have hp1 : m1.put1 true c = m1 := by unfold M.put1; rw [if_pos hz]
          have HR := Lib.hid (show Does w wr b F (m.put true (s.data.toList.take (i + 1))) by rw [HP.out, hp1]; exact ⟨F1, h1, hk1, hF1⟩)
          clear hz hp1 h1 hk1 hF1
          go_wp2_with fail
          go_roundg k1
          case measure => omega
          case rel => exact ⟨i + 1, rfl, Lib.hid (by omega), Lib.hid (by have := HK.out; omega), HR⟩
        · have z1 : ((c.toNat : Int) == 0) = false := by
            rw [beq_eq_false_iff_ne]
            intro e
            exact hz (UInt8.toNat_inj.1 (by simpa using (by omega : c.toNat = 0)))
          have hbl := blank_at c
          cases hB : isBlank c with
          | true =>
            rw [hB] at hbl
            have hp1 : m1.put1 true c = m1.keep c := by unfold M.put1; rw [if_neg hz, if_pos hB]; rfl
            have HC := Lib.hid (keep_at h1 c (by have := HS1.out; unfold M.size at this; omega) (by have := HS1.out; unfold M.size at this; omega))
            have HBL := Lib.hid hbl
            clear hz hB hbl h1
            go_wp2_with (go_at_call 102; refine (HBL.out _).mono ?_)
            rintro e w1' ⟨rfl, rfl⟩
            go_wp2_with (go_at_call 101; refine HC.out.mono ?_)
            rintro e w2 ⟨rfl, hd2⟩
            have HR := Lib.hid (show Does w w2 b F (m.put true (s.data.toList.take (i + 1))) by rw [HP.out, hp1]; exact Does.trans hk1 hF1 hd2)
            clear hp1 hk1 hF1 hd2 HC
            go_wp2_with fail
            go_roundg k1
            case measure => omega
            case rel => exact ⟨i + 1, rfl, Lib.hid (by omega), Lib.hid (by have := HK.out; omega), HR⟩
          | false =>
            rw [hB] at hbl
            have hp1 : m1.put1 true c = m1.word c := by unfold M.put1; rw [if_neg hz, if_neg (by rw [hB]; simp)]
            have HC := Lib.hid (word_at h1 c HS1.out)
            have HBL := Lib.hid hbl
            clear hz hB hbl h1
            go_wp2_with (go_at_call 102; refine (HBL.out _).mono ?_)
            rintro e w1' ⟨rfl, rfl⟩
            go_wp2_with (go_at_call 103; refine HC.out.mono ?_)
            rintro e w2 ⟨rfl, hd2⟩
            have HR := Lib.hid (show Does w w2 b F (m.put true (s.data.toList.take (i + 1))) by rw [HP.out, hp1]; exact Does.trans hk1 hF1 hd2)
            clear hp1 hk1 hF1 hd2 HC
            go_wp2_with fail
            go_roundg k1
            case measure => omega
            case rel => exact ⟨i + 1, rfl, Lib.hid (by omega), Lib.hid (by have := HK.out; omega), HR⟩
    · have d1 : decide ((i : Int) < (s.size : Int)) = false := decide_eq_false (by omega)
      have d2 : decide (i < s.size) = false := decide_eq_false hlt
      have hie : i = s.data.toList.length := by simp; omega
      have HR := Lib.hid (show Does w wr b F (m.put true s.data.toList) by have h := HD.out; rw [hie, List.take_length] at h; exact h)
      clear HD hie
      go_wp2_with fail
      go_end0
      exact ⟨rfl, HR.out⟩
theorem put_at (h : Fl w b F m) (s : ByteArray) (k : Bool) (hb : m.size + s.size ≤ 1000000000) : Calls Tryz.prog 41 #[.pointer (some ⟨b, 0, none⟩), .string s, .bool k] w fun e w' => e = .returned (.tuple #[]) ∧ Does w w' b F (m.put k s.data.toList) := by
  cases k
  · exact put_false h s hb
  · exact put_true h s hb
structure Act where
  kind : Int
  s : ByteArray
  keep : Bool
  n : Int
def Act.val (a : Act) : Value := .agg #[.int .i64 a.kind, .string a.s, .bool a.keep, .int .i64 a.n]
end
end Go.Proofs.YteccaekalcjihaaGreatDoor.Flow
set_option linter.unusedVariables false
namespace Go.Proofs.YteccaekalcjihaaGreatDoor.Flow
open Go.RowKit Go.Lib Go.Proofs.YteccaekalcjihaaGreatDoor.Buf
section
variable {w0 w : World} {l : List (Nat × M)} {b : Nat} {m : M}
end
end Go.Proofs.YteccaekalcjihaaGreatDoor.Flow
set_option linter.unusedVariables false
set_option linter.unusedSimpArgs false
namespace Go.Proofs.YteccaekalcjihaaGreatDoor.Rend
open Go.RowKit Go.Lib Go.Proofs.YteccaekalcjihaaGreatDoor.Buf Go.Proofs.YteccaekalcjihaaGreatDoor.Flow Go.Proofs.YteccaekalcjihaaGreatDoor.PTn
def tHead : List UInt8 := [104, 101, 97, 100]
def tBody : List UInt8 := [98, 111, 100, 121]
def tBr : List UInt8 := [98, 114]
def brM (n : ByteArray) (m : M) : M := if n.toList = tBr then m.line else m
def tagM (n : ByteArray) (m : M) : M := if linesN n = 0 then brM n m else (brM n m).brk (linesN n)
structure Pg where
  names : List ByteArray
  kept : Nat
  m : M
def Pg.none : Pg := ⟨[], 0, M.none⟩
def noHead (l : List ByteArray) : List ByteArray := l.filter (fun x => !(x.toList == tHead))
def bodyN (n : ByteArray) (l : List ByteArray) : List ByteArray := if n.toList = tBody then noHead l else l
def lastN (n : ByteArray) : List ByteArray → Option Nat
  | [] => Option.none
  | x :: l => match lastN n l with
    | some i => some (i + 1)
    | Option.none => if x.toList = n.toList then some 0 else Option.none
def Pg.start (n : ByteArray) (s : Pg) : Pg :=
  if hasN LH n = true then { s with names := bodyN n s.names ++ [n] }
  else if bodyN n s.names = [] then { names := [], kept := if hasN LK n = true then s.kept + 1 else s.kept, m := tagM n s.m }
  else { s with names := bodyN n s.names }
def Pg.close (n : ByteArray) (s : Pg) : Pg :=
  match lastN n s.names with
  | some i => { s with names := s.names.take i }
  | Option.none => if s.names = [] then { s with kept := if hasN LK n = true then s.kept - 1 else s.kept, m := tagM n s.m } else s
def Pg.text (t : ByteArray) (s : Pg) : Pg := if s.names = [] then { s with m := s.m.put (decide (0 < s.kept)) t.data.toList } else s
def Pg.step (x : S40) (s : Pg) : Pg := if x.f0 = 1 then s.start x.f1 else if x.f0 = 2 then s.close x.f1 else if x.f0 = 0 then s.text x.f2 else s
def Pg.all (l : List S40) (s : Pg) : Pg := l.foldl (fun s x => s.step x) s
theorem all_snoc (l : List S40) (x : S40) (s : Pg) : Pg.all (l ++ [x]) s = (Pg.all l s).step x := by simp [Pg.all]
structure IsP (w : World) (p : Nat) (F : Nat → Prop) (f : Nat) (v : Value) (G : Nat → Prop) (s : Pg) : Prop where
  heap : w.heap[p]? = some (.cells #[.pointer (some ⟨f, 0, none⟩), v, .int .i64 s.kept] 67 (0, 0))
  row : w.ownsRow 0 9 1 v s.names.length (s.names.map Value.string)
  flow : Fl w f G s.m
  fp : F p
  fv : ∀ k, v.ownBlock = some k → F k
  fg : ∀ k, G k → F k
  np : ¬ G p
  nv : ∀ k, v.ownBlock = some k → ¬ G k ∧ k ≠ p
  fin : ∀ k, F k → k < w.heap.size
def Pge (w : World) (p : Nat) (F : Nat → Prop) (s : Pg) : Prop := ∃ f v G, IsP w p F f v G s
def PDoes (w w' : World) (p : Nat) (F : Nat → Prop) (s : Pg) : Prop := ∃ F', Pge w' p F' s ∧ Kp F w w' ∧ ∀ k, F' k → F k ∨ w.heap.size ≤ k
theorem row_kp {F : Nat → Prop} {w w' : World} {base : Nat} {e : TypeId} {v : Value} {n : Nat} {xs : List Value} (h : w.ownsRow base e 1 v n xs) (hk : Kp F w w') (hv : ∀ k, v.ownBlock = some k → ¬ F k) : w'.ownsRow base e 1 v n xs := by
  refine ⟨h.1, ?_⟩
  rcases h.2 with hn | ⟨g, cap, cur, rfl, hb, hgg, rest⟩
  · exact .inl hn
  · refine .inr ⟨g, cap, cur, rfl, hb, ?_, rest⟩
    rw [hk.block g (Array.getElem?_eq_some_iff.1 hgg).1 (hv g rfl)]
    exact hgg
section
variable {w w' w1 w2 : World} {p : Nat} {F G : Nat → Prop} {s s1 s2 : Pg}
theorem Pge.kp (h : Pge w p F s) (hk : Kp G w w') (hd : ∀ k, F k → ¬ G k) : Pge w' p F s := by
  obtain ⟨f, v, H, h⟩ := h
  exact ⟨f, v, H, (hk.block p (Buf.lt_of_heap h.heap) (hd p h.fp)).trans h.heap, row_kp h.row hk (fun k e => hd k (h.fv k e)), h.flow.kp hk (fun k e => hd k (h.fg k e)), h.fp, h.fv, h.fg, h.np, h.nv, fun k hf => Nat.lt_of_lt_of_le (h.fin k hf) hk.size⟩
theorem Pge.below (h : Pge w p F s) (hb : Below w.heap.size w w') : Pge w' p F s := h.kp (G := fun _ => False) (Kp.of_below hb _) (fun _ _ h => h)
theorem Pge.refl (h : Pge w p F s) : PDoes w w p F s := ⟨F, h, Kp.refl F w, fun k hf => Or.inl hf⟩
theorem PDoes.trans' (hk : Kp F w w1) {F1 : Nat → Prop} (hF : ∀ k, F1 k → F k ∨ w.heap.size ≤ k) (h : PDoes w1 w2 p F1 s2) : PDoes w w2 p F s2 := by
  obtain ⟨F2, h2, hk2, hF2⟩ := h
  refine ⟨F2, h2, hk.trans hk2 (fun k hlt hf => ?_), fun k hf => ?_⟩
  · rcases hF k hf with h | h
    · exact h
    · omega
  · rcases hF2 k hf with h | h
    · exact hF k h
    · exact Or.inr (Nat.le_trans hk.size h)
theorem PDoes.below (h : PDoes w w1 p F s) (hb : Below w1.heap.size w1 w2) : PDoes w w2 p F s := by
  obtain ⟨F1, h1, hk1, hF1⟩ := h
  exact PDoes.trans' hk1 hF1 ⟨F1, h1.below hb, Kp.of_below hb _, fun k hf => Or.inl hf⟩
theorem PDoes.of_below (hb : Below w.heap.size w w1) (h : PDoes w1 w2 p F s) : PDoes w w2 p F s := PDoes.trans' (Kp.of_below hb _) (fun k hf => Or.inl hf) h
theorem pd_flow {f : Nat} {v : Value} {m' : M} (h : IsP w p F f v G s) (hd : Does w w1 f G m') : PDoes w w1 p F { s with m := m' } := by
  obtain ⟨G', hG', hk, hn⟩ := hd
  have hlt := Buf.lt_of_heap h.heap
  have hfin : ∀ k, G' k → k < w1.heap.size := by
    obtain ⟨_, _, _, hh⟩ := hG'
    exact hh.fin
  have hvlt : ∀ k, v.ownBlock = some k → k < w.heap.size := fun k e => h.fin k (h.fv k e)
  refine ⟨fun k => F k ∨ G' k, ⟨f, v, G', (hk.block p hlt h.np).trans h.heap, row_kp h.row hk (fun k e => (h.nv k e).1), hG', Or.inl h.fp, fun k e => Or.inl (h.fv k e), fun k e => Or.inr e, ?_, ?_, ?_⟩, hk.mono (fun k _ e => h.fg k e), ?_⟩
  · intro e
    rcases hn p e with e | e
    · exact h.np e
    · omega
  · intro k e
    refine ⟨fun e2 => ?_, (h.nv k e).2⟩
    rcases hn k e2 with e3 | e3
    · exact (h.nv k e).1 e3
    · have := hvlt k e
      omega
  · rintro k (e | e)
    · exact Nat.lt_of_lt_of_le (h.fin k e) hk.size
    · exact hfin k e
  · rintro k (e | e)
    · exact Or.inl e
    · exact (hn k e).imp (h.fg k) id
theorem pd_kept {f : Nat} {v : Value} (h : IsP w p F f v G s) (n : Nat) : PDoes w (w.setCell ⟨p, 2, none⟩ (.int .i64 n)) p F { s with kept := n } := by
  have hk : Kp (fun k => k = p) w (w.setCell ⟨p, 2, none⟩ (.int .i64 n)) := (Kp.refl (fun k => k = p) w).setCell (p := ⟨p, 2, none⟩) rfl _
  refine ⟨F, ⟨f, v, G, heap_setCell_self h.heap (j := 2) (.int .i64 n), row_kp h.row hk (fun k e => (h.nv k e).2), h.flow.kp hk (fun k e e2 => h.np (e2 ▸ e)), h.fp, h.fv, h.fg, h.np, h.nv, fun k hf => Nat.lt_of_lt_of_le (h.fin k hf) hk.size⟩, hk.mono (fun k _ e => by rw [e]; exact h.fp), fun k hf => Or.inl hf⟩
theorem pd_row {f : Nat} {v v' : Value} {names : List ByteArray} (h : IsP w p F f v G s) (hk : Kp (fun k => v.ownBlock = some k) w w1) (hr : w1.ownsRow 0 9 1 v' names.length (names.map Value.string)) (hl : ∀ k, v'.ownBlock = some k → v.ownBlock = some k ∨ w.heap.size ≤ k) :
    PDoes w (w1.setCell ⟨p, 1, none⟩ v') p F { s with names := names } := by
  have hlt := Buf.lt_of_heap h.heap
  have h1 : w1.heap[p]? = some (.cells #[.pointer (some ⟨f, 0, none⟩), v, .int .i64 s.kept] 67 (0, 0)) := (hk.block p hlt (fun e => (h.nv p e).2 rfl)).trans h.heap
  have hk2 : Kp (fun k => k = p) w1 (w1.setCell ⟨p, 1, none⟩ v') := (Kp.refl (fun k => k = p) w1).setCell (p := ⟨p, 1, none⟩) rfl _
  have hvp : ∀ k, v'.ownBlock = some k → ¬ G k ∧ k ≠ p := fun k e => by
    rcases hl k e with e2 | e2
    · exact h.nv k e2
    · refine ⟨fun e3 => ?_, by omega⟩
      have := h.fin k (h.fg k e3)
      omega
  have hfl : Fl w1 f G s.m := h.flow.kp hk (fun k e e2 => (h.nv k e2).1 e)
  refine ⟨fun k => F k ∨ v'.ownBlock = some k, ⟨f, v', G, heap_setCell_self h1 (j := 1) v', row_kp hr hk2 (fun k e => (hvp k e).2), hfl.kp hk2 (fun k e e2 => h.np (e2 ▸ e)), Or.inl h.fp, fun k e => Or.inr e, fun k e => Or.inl (h.fg k e), h.np, hvp, ?_⟩, ?_, ?_⟩
  · rintro k (e | e)
    · exact Nat.lt_of_lt_of_le (h.fin k e) (Nat.le_trans hk.size hk2.size)
    · exact Nat.lt_of_lt_of_le (hr.lt k e).2 hk2.size
  · refine Kp.trans (hk.mono (fun k _ e => h.fv k e)) (hk2.mono (G := F) (fun k _ e => by rw [e]; exact h.fp)) (fun b _ e => e)
  · rintro k (e | e)
    · exact Or.inl e
    · exact (hl k e).imp (h.fv k) id
theorem page_cells {f : Nat} {v : Value} (h : IsP w p F f v G s) : w.cell? ⟨p, 0, none⟩ = some (.pointer (some ⟨f, 0, none⟩)) ∧ w.cell? ⟨p, 1, none⟩ = some v ∧ w.cell? ⟨p, 2, none⟩ = some (.int .i64 s.kept) ∧ (∀ j, w.frozen? ⟨p, j, none⟩ = false) := by
  refine ⟨?_, ?_, ?_, fun j => Lib.frozen_of_heap h.heap j⟩
  all_goals (rw [Lib.cell_of_heap h.heap]; rfl)
end
end Go.Proofs.YteccaekalcjihaaGreatDoor.Rend
set_option linter.unusedVariables false
set_option linter.unusedSimpArgs false
namespace Go.Proofs.YteccaekalcjihaaGreatDoor.Rend
open Go.RowKit Go.Lib Go.Proofs.YteccaekalcjihaaGreatDoor.Buf Go.Proofs.YteccaekalcjihaaGreatDoor.Flow Go.Proofs.YteccaekalcjihaaGreatDoor.PTn
section
variable {w w' w1 w2 : World} {p : Nat} {F G : Nat → Prop} {s s1 s2 : Pg}
theorem pg_line (h : Hid (Pge w p F s)) (hb : Hid (s.m.ends ≤ 1000000000)) {f : Nat} (hc : w.cell? ⟨p, 0, none⟩ = some (.pointer (some ⟨f, 0, none⟩))) : Calls Tryz.prog 148 #[.pointer (some ⟨f, 0, none⟩)] w fun e w' => e = .returned (.tuple #[]) ∧ Hid (PDoes w w' p F { s with m := s.m.line }) := by
  obtain ⟨f', v, G, h⟩ := h.out
  have hh := (page_cells h).1
  rw [hc] at hh
  simp at hh
  subst hh
  refine (line_at h.flow hb.out).mono ?_
  rintro e w' ⟨h1, h2⟩
  exact ⟨h1, Lib.hid (pd_flow h h2)⟩
theorem pg_brk (h : Hid (Pge w p F s)) (hb : Hid (s.m.ends ≤ 1000000000)) {f : Nat} (hc : w.cell? ⟨p, 0, none⟩ = some (.pointer (some ⟨f, 0, none⟩))) (n : Int) (hn : (Lit.int .i64 n).wf = true) : Calls Tryz.prog 150 #[.pointer (some ⟨f, 0, none⟩), .int .i64 n] w fun e w' => e = .returned (.tuple #[]) ∧ Hid (PDoes w w' p F { s with m := s.m.brk n }) := by
  obtain ⟨f', v, G, h⟩ := h.out
  have hh := (page_cells h).1
  rw [hc] at hh
  simp at hh
  subst hh
  refine (brk_at h.flow hb.out n hn).mono ?_
  rintro e w' ⟨h1, h2⟩
  exact ⟨h1, Lib.hid (pd_flow h h2)⟩
theorem pg_put (h : Hid (Pge w p F s)) {f : Nat} (hc : w.cell? ⟨p, 0, none⟩ = some (.pointer (some ⟨f, 0, none⟩))) (t : ByteArray) (k : Bool) (hb : Hid (s.m.size + t.size ≤ 1000000000)) : Calls Tryz.prog 41 #[.pointer (some ⟨f, 0, none⟩), .string t, .bool k] w fun e w' => e = .returned (.tuple #[]) ∧ Hid (PDoes w w' p F { s with m := s.m.put k t.data.toList }) := by
  obtain ⟨f', v, G, h⟩ := h.out
  have hh := (page_cells h).1
  rw [hc] at hh
  simp at hh
  subst hh
  refine (put_at h.flow t k hb.out).mono ?_
  rintro e w' ⟨h1, h2⟩
  exact ⟨h1, Lib.hid (pd_flow h h2)⟩
theorem pg_text (h : Hid (Pge w p F s)) {f : Nat} (hc : w.cell? ⟨p, 0, none⟩ = some (.pointer (some ⟨f, 0, none⟩))) : Calls Tryz.prog 42 #[.pointer (some ⟨f, 0, none⟩)] w fun e w' => e = .returned (.string ⟨s.m.told.toArray⟩) ∧ Hid (PDoes w w' p F s) := by
  obtain ⟨f', v, G, h⟩ := h.out
  have hh := (page_cells h).1
  rw [hc] at hh
  simp at hh
  subst hh
  refine (text_at h.flow).mono ?_
  rintro e w' ⟨h1, h2, h3⟩
  exact ⟨h1, Lib.hid (pd_flow h ⟨G, h2, h3, fun k e => Or.inl e⟩)⟩
theorem pg_kinds {n : ByteArray} (h : Hid (PDoes w w1 p F s)) : Calls Tryz.prog 149 #[.string n] w1 fun e w' => e = .returned (.int .i64 (linesN n)) ∧ Hid (PDoes w w' p F s) := by
  refine (lines_calls n w1).mono ?_
  rintro e w' ⟨h1, h2⟩
  exact ⟨h1, Lib.hid (h.out.below h2)⟩
theorem pg_keeps {n : ByteArray} (h : Hid (PDoes w w1 p F s)) : Calls Tryz.prog 98 #[.string n] w1 fun e w' => e = .returned (.bool (hasN LK n)) ∧ Hid (PDoes w w' p F s) := by
  refine (keeps_calls n w1).mono ?_
  rintro e w' ⟨h1, h2⟩
  exact ⟨h1, Lib.hid (h.out.below h2)⟩
theorem pg_cell (h : PDoes w w1 p F s) : ∃ f, w1.cell? ⟨p, 0, none⟩ = some (.pointer (some ⟨f, 0, none⟩)) := by
  obtain ⟨F1, ⟨f, v, G, h⟩, _⟩ := h
  exact ⟨f, (page_cells h).1⟩
theorem pg_cell0 (h : Pge w p F s) : ∃ f, w.cell? ⟨p, 0, none⟩ = some (.pointer (some ⟨f, 0, none⟩)) := by
  obtain ⟨f, v, G, h⟩ := h
  exact ⟨f, (page_cells h).1⟩
theorem d_line (h : Hid (PDoes w w1 p F s)) (hb : Hid (s.m.ends ≤ 1000000000)) {f : Nat} (hc : w1.cell? ⟨p, 0, none⟩ = some (.pointer (some ⟨f, 0, none⟩))) : Calls Tryz.prog 148 #[.pointer (some ⟨f, 0, none⟩)] w1 fun e w' => e = .returned (.tuple #[]) ∧ Hid (PDoes w w' p F { s with m := s.m.line }) := by
  obtain ⟨F1, h1, h2, h3⟩ := h.out
  refine (pg_line (Lib.hid h1) hb hc).mono ?_
  rintro e w' ⟨h4, h5⟩
  exact ⟨h4, Lib.hid (PDoes.trans' h2 h3 h5.out)⟩
theorem d_brk (h : Hid (PDoes w w1 p F s)) (hb : Hid (s.m.ends ≤ 1000000000)) {f : Nat} (hc : w1.cell? ⟨p, 0, none⟩ = some (.pointer (some ⟨f, 0, none⟩))) (n : Int) (hn : (Lit.int .i64 n).wf = true) : Calls Tryz.prog 150 #[.pointer (some ⟨f, 0, none⟩), .int .i64 n] w1 fun e w' => e = .returned (.tuple #[]) ∧ Hid (PDoes w w' p F { s with m := s.m.brk n }) := by
  obtain ⟨F1, h1, h2, h3⟩ := h.out
  refine (pg_brk (Lib.hid h1) hb hc n hn).mono ?_
  rintro e w' ⟨h4, h5⟩
  exact ⟨h4, Lib.hid (PDoes.trans' h2 h3 h5.out)⟩
set_option maxHeartbeats 4000000 in
set_option maxRecDepth 100000 in
theorem tag_at (h : Pge w p F s) (n : ByteArray) (hb : s.m.ends ≤ 900000000) : Calls Tryz.prog 97 #[.pointer (some ⟨p, 0, none⟩), .string n] w fun e w' => e = .returned (.tuple #[]) ∧ Hid (PDoes w w' p F { s with m := tagM n s.m }) := by
  have HP := Lib.hid h.refl
  obtain ⟨f, c0⟩ := pg_cell0 h
  have HB : Hid (s.m.ends ≤ 1000000000) := Lib.hid (by omega)
  have HB2 : Hid (s.m.line.ends ≤ 1000000000) := Lib.hid (by simp [M.line]; omega)
  clear h hb
  have hw : (Lit.int .i64 (linesN n)).wf = true := by rcases linesN_cases n with e | e | e <;> (rw [e]; decide)
  by_cases hbr : n.toList = tBr
  · have d1 : (n.toList == [98, 114]) = true := beq_iff_eq.2 hbr
    by_cases hz : linesN n = 0
    · have d2 : (linesN n != 0) = false := by rw [hz]; rfl
      have d3 : (linesN n == 0) = true := by rw [hz]; rfl
      have HT : Hid (tagM n s.m = s.m.line) := Lib.hid (by unfold tagM brM; rw [if_pos hz, if_pos hbr])
      clear hbr hz
      go_enter Tryz.func97, Tryz.ntmps97
      go_wp2_with (first
        | (go_at_call 148; refine (d_line HP HB c0).mono ?_; rintro e w1 ⟨rfl, h1⟩)
        | (go_at_call 149; refine (pg_kinds h1).mono ?_; rintro e w2 ⟨rfl, h2⟩))
      go_end0
      exact ⟨rfl, by rw [HT.out]; exact h2⟩
    · have d3 : (linesN n == 0) = false := beq_eq_false_iff_ne.2 hz
      have d2 : (linesN n != 0) = true := by unfold bne; rw [d3]; rfl
      have HT : Hid (tagM n s.m = (s.m.line).brk (linesN n)) := Lib.hid (by unfold tagM brM; rw [if_neg hz, if_pos hbr])
      clear hbr hz
      go_enter Tryz.func97, Tryz.ntmps97
      go_wp2_with (first
        | (go_at_call 148; refine (d_line HP HB c0).mono ?_; rintro e w1 ⟨rfl, h1⟩)
        | (go_at_call 149; refine (pg_kinds h1).mono ?_; rintro e w2 ⟨rfl, h2⟩; obtain ⟨f2, c2⟩ := pg_cell h2.out)
        | (go_at_call 150; refine (d_brk h2 HB2 c2 _ hw).mono ?_; rintro e w3 ⟨rfl, h3⟩))
      go_end0
      exact ⟨rfl, by rw [HT.out]; exact h3⟩
  · have d1 : (n.toList == [98, 114]) = false := beq_eq_false_iff_ne.2 hbr
    by_cases hz : linesN n = 0
    · have d2 : (linesN n != 0) = false := by rw [hz]; rfl
      have d3 : (linesN n == 0) = true := by rw [hz]; rfl
      have HT : Hid (tagM n s.m = s.m) := Lib.hid (by unfold tagM brM; rw [if_pos hz, if_neg hbr])
      clear hbr hz
      go_enter Tryz.func97, Tryz.ntmps97
      go_wp2_with (first
        | (go_at_call 149; refine (pg_kinds HP).mono ?_; rintro e w2 ⟨rfl, h2⟩))
      go_end0
      exact ⟨rfl, by rw [HT.out]; exact h2⟩
    · have d3 : (linesN n == 0) = false := beq_eq_false_iff_ne.2 hz
      have d2 : (linesN n != 0) = true := by unfold bne; rw [d3]; rfl
      have HT : Hid (tagM n s.m = (s.m).brk (linesN n)) := Lib.hid (by unfold tagM brM; rw [if_neg hz, if_neg hbr])
      clear hbr hz
      go_enter Tryz.func97, Tryz.ntmps97
      go_wp2_with (first
        | (go_at_call 149; refine (pg_kinds HP).mono ?_; rintro e w2 ⟨rfl, h2⟩; obtain ⟨f2, c2⟩ := pg_cell h2.out)
        | (go_at_call 150; refine (d_brk h2 HB c2 _ hw).mono ?_; rintro e w3 ⟨rfl, h3⟩))
      go_end0
      exact ⟨rfl, by rw [HT.out]; exact h3⟩
end
end Go.Proofs.YteccaekalcjihaaGreatDoor.Rend
set_option linter.unusedVariables false
set_option linter.unusedSimpArgs false
namespace Go.Proofs.YteccaekalcjihaaGreatDoor.Rend
open Go.RowKit Go.Lib Go.Proofs.YteccaekalcjihaaGreatDoor.Buf Go.Proofs.YteccaekalcjihaaGreatDoor.Flow Go.Proofs.YteccaekalcjihaaGreatDoor.PTn
def isHead (x : ByteArray) : Bool := x.toList == tHead
def idxH : List ByteArray → Int
  | [] => -1
  | x :: l => if isHead x = true then 0 else if idxH l < 0 then -1 else idxH l + 1
theorem idxH_spec : ∀ l : List ByteArray, (idxH l = -1 ∧ ∀ x ∈ l, isHead x = false) ∨ ∃ i, ∃ h : i < l.length, idxH l = (i : Int) ∧ isHead l[i] = true ∧ ∀ x ∈ l.take i, isHead x = false
  | [] => .inl ⟨rfl, by simp⟩
  | x :: l => by
    by_cases hx : isHead x = true
    · exact .inr ⟨0, by simp, by simp [idxH, hx], by simpa using hx, by simp⟩
    · have hx' : isHead x = false := by simpa using hx
      rcases idxH_spec l with ⟨e, h⟩ | ⟨i, hi, e, h1, h2⟩
      · refine .inl ⟨by simp [idxH, hx, e], fun y hy => ?_⟩
        rcases List.mem_cons.1 hy with rfl | hy
        · exact hx'
        · exact h y hy
      · refine .inr ⟨i + 1, by simpa using hi, ?_, by simpa using h1, fun y hy => ?_⟩
        · simp only [idxH, hx, e]
          rw [if_neg (by simp), if_neg (by omega)]
          rfl
        · rw [List.take_succ_cons] at hy
          rcases List.mem_cons.1 hy with rfl | hy
          · exact hx'
          · exact h2 y hy
section
variable {w w' w1 w2 : World}
abbrev Row (w : World) (g cap : Nat) (l : List ByteArray) : Prop := w.ownsRow 0 9 1 (.slice (some ⟨g, 0, none⟩) l.length cap) l.length (l.map Value.string)
theorem row_at {g cap : Nat} {l : List ByteArray} (h : Row w g cap l) (j : Nat) (hj : j < l.length) : w.cell? ⟨g, j, none⟩ = some (.string l[j]) := by
  have := h.cellAt j (by omega)
  rw [this, List.getElem?_map, List.getElem?_eq_getElem hj]
  rfl
theorem row_fr {g cap : Nat} {l : List ByteArray} (h : Row w g cap l) (j : Nat) : w.frozen? ⟨g, j, none⟩ = false := h.frozenAt j
theorem row_heap {g cap : Nat} {l : List ByteArray} (h : Row w g cap l) : ∃ cur, w.heap[g]? = some (.cells cur 9 (0, 0)) ∧ l.length ≤ cap ∧ cap ≤ maxLen ∧ cur.size = cap ∧ cur.toList.take l.length = l.map Value.string := by
  rcases h.2 with ⟨e, _⟩ | ⟨g', cap', cur, e, _, hg, h1, h2, h3, h4⟩
  · cases e
  · cases e
    exact ⟨cur, hg, h1, h2, by simpa using h3, by simpa using h4⟩
theorem row_mk {g cap : Nat} {l : List ByteArray} {cur : Array Value} (hg : w.heap[g]? = some (.cells cur 9 (0, 0))) (h1 : l.length ≤ cap) (h2 : cap ≤ maxLen) (h3 : cur.size = cap) (h4 : cur.toList.take l.length = l.map Value.string) : Row w g cap l :=
  ⟨by simp, .inr ⟨g, cap, cur, rfl, Nat.zero_le _, hg, h1, h2, by simpa using h3, by simpa using h4⟩⟩
theorem row_take {g cap : Nat} {l : List ByteArray} (h : Row w g cap l) (i : Nat) (hi : i ≤ l.length) : w.ownsRow 0 9 1 (.slice (some ⟨g, 0, none⟩) i cap) (l.take i).length ((l.take i).map Value.string) := by
  obtain ⟨cur, hg, h1, h2, h3, h4⟩ := row_heap h
  have hl : (l.take i).length = i := by simp; omega
  have := row_mk (l := l.take i) hg (by omega) h2 h3 (by rw [hl, List.map_take, ← h4, List.take_take, Nat.min_eq_left hi])
  unfold Row at this
  rw [hl] at this ⊢
  exact this
theorem row_set {g cap : Nat} {l : List ByteArray} (h : Row w g cap l) (i : Nat) (hi : i < l.length) (x : ByteArray) : Row (w.setCell ⟨g, i, none⟩ (.string x)) g cap (l.set i x) := by
  obtain ⟨cur, hg, h1, h2, h3, h4⟩ := row_heap h
  refine row_mk (heap_setCell_self hg _) (by simpa using h1) h2 (by simpa using h3) ?_
  rw [List.length_set, Array.toList_setIfInBounds, List.take_set, h4, List.map_set]
theorem kp_set (g i : Nat) (x : Value) : Kp (fun k => k = g) w (w.setCell ⟨g, i, none⟩ x) := (Kp.refl (fun k => k = g) w).setCell (p := ⟨g, i, none⟩) rfl _
theorem setCells_behind (g : Nat) (T : TypeId) (fr : Nat × Nat) : ∀ (xs : List Value) (o : Nat) (w : World) (cur : Array Value), w.heap[g]? = some (.cells cur T fr) → ∃ cur', (w.setCells g o xs).heap[g]? = some (.cells cur' T fr) ∧ cur'.size = cur.size ∧ cur'.toList.take o = cur.toList.take o ∧ Kp (fun k => k = g) w (w.setCells g o xs)
  | [], o, w, cur, h => ⟨cur, h, rfl, rfl, Kp.refl _ w⟩
  | x :: xs, o, w, cur, h => by
    obtain ⟨cur', h1, h2, h3, h4⟩ := setCells_behind g T fr xs (o + 1) (w.setCell ⟨g, o, none⟩ x) _ (heap_setCell_self h x)
    refine ⟨cur', h1, by simpa using h2, ?_, (kp_set g o x).trans h4 (fun _ _ e => e)⟩
    have e1 : cur'.toList.take o = (cur'.toList.take (o + 1)).take o := by rw [List.take_take, Nat.min_eq_left (by omega)]
    rw [e1, h3, List.take_take, Nat.min_eq_left (by omega), Array.toList_setIfInBounds]
    apply List.ext_getElem?
    intro j
    rw [List.getElem?_take, List.getElem?_take]
    split
    · rw [List.getElem?_set_ne (by omega)]
    · rfl
theorem f54_at (x : ByteArray) (w : World) : Calls Tryz.prog 95 #[.string x] w fun e w' => e = .returned (.bool (isHead x)) ∧ w' = w := by
  have hx : (x.toList == [104, 101, 97, 100]) = isHead x := rfl
  go_enter Tryz.func95, Tryz.ntmps95
  go_wp2
  go_ret
  exact ⟨rfl, rfl⟩
set_option maxHeartbeats 4000000 in
set_option maxRecDepth 100000 in
theorem index_at {g cap : Nat} {l : List ByteArray} (h : Row w g cap l) (hl : l.length ≤ 1000000000) : Calls Tryz.prog 146 #[.slice (some ⟨g, 0, none⟩) l.length cap, .func (.func 95) #[] #[]] w fun e w' => e = .returned (.int .i64 (idxH l)) ∧ w' = w := by
  have HR := Lib.hid h
  clear h
  go_enter Tryz.func146, Tryz.ntmps146
  go_wp2_with fail
  go_loopg [8] (l.length + 1) (fun kq v w' => ∃ i : Nat, v = .int .i64 i ∧ Hid (i ≤ l.length) ∧ Hid (l.length < i + kq) ∧ w' = w ∧ Hid (∀ x ∈ l.take i, isHead x = false))
  case atStart => exact ⟨0, rfl, Lib.hid (Nat.zero_le _), Lib.hid (by omega), rfl, Lib.hid (by simp)⟩
  case round =>
    obtain ⟨i, rfl, HI, HK, rfl, HA⟩ := hrel
    have hi := HI.out
    by_cases hlt : i < l.length
    · have d1 : decide ((i : Int) < (l.length : Int)) = true := decide_eq_true (by omega)
      have d2 : decide (i < l.length) = true := decide_eq_true hlt
      obtain ⟨x, hx⟩ : ∃ x, l[i] = x := ⟨_, rfl⟩
      have hc := row_at HR.out i hlt
      rw [hx] at hc
      have HX := Lib.hid hx
      clear hx
      cases gk with
      | zero => exact absurd HK.out (by omega)
      | succ k1 =>
        have hF := f54_at x wr
        cases hh : isHead x with
        | true =>
          rw [hh] at hF
          have HE : Hid (idxH l = (i : Int)) := Lib.hid (by
            rcases idxH_spec l with ⟨_, h2⟩ | ⟨i2, hi2, e, h1, h2⟩
            · have := h2 l[i] (List.getElem_mem hlt)
              rw [HX.out, hh] at this
              cases this
            · rcases Nat.lt_trichotomy i i2 with h3 | h3 | h3
              · have := h2 l[i] (List.mem_take_iff_getElem.2 ⟨i, by omega, rfl⟩)
                rw [HX.out, hh] at this
                cases this
              · rw [e, h3]
              · have := HA.out l[i2] (List.mem_take_iff_getElem.2 ⟨i2, by omega, rfl⟩)
                rw [h1] at this
                cases this)
          go_wp2_with (go_at_call 95; refine hF.mono ?_; rintro e w1 ⟨rfl, rfl⟩)
          go_ret
          exact ⟨by rw [HE.out]; rfl, rfl⟩
        | false =>
          rw [hh] at hF
          have HA2 : Hid (∀ y ∈ l.take (i + 1), isHead y = false) := Lib.hid (fun y hy => by
            rw [List.take_succ_eq_append_getElem hlt] at hy
            rcases List.mem_append.1 hy with hy | hy
            · exact HA.out y hy
            · simp at hy
              rw [hy, HX.out]
              exact hh)
          go_wp2_with (go_at_call 95; refine hF.mono ?_; rintro e w1 ⟨rfl, rfl⟩)
          go_roundg k1
          case measure => omega
          case rel => exact ⟨i + 1, rfl, Lib.hid (by omega), Lib.hid (by have := HK.out; omega), rfl, HA2⟩
    · have d1 : decide ((i : Int) < (l.length : Int)) = false := decide_eq_false (by omega)
      have d2 : decide (i < l.length) = false := decide_eq_false hlt
      have HE : Hid (idxH l = -1) := Lib.hid (by
        have hie : i = l.length := by omega
        have ha := HA.out
        rw [hie, List.take_length] at ha
        rcases idxH_spec l with ⟨e, _⟩ | ⟨i2, hi2, e, h1, h2⟩
        · exact e
        · have := ha l[i2] (List.getElem_mem hi2)
          rw [h1] at this
          cases this)
      go_wp2_with fail
      go_ret
      exact ⟨by rw [HE.out]; rfl, rfl⟩
theorem noHead_take (l : List ByteArray) (j : Nat) (hj : j < l.length) : noHead (l.take (j + 1)) = noHead (l.take j) ++ (if isHead l[j] = true then [] else [l[j]]) := by
  unfold noHead
  rw [List.take_succ_eq_append_getElem hj, List.filter_append]
  congr 1
  unfold isHead
  by_cases h : (l[j].toList == tHead) = true
  · simp [h]
  · simp [h]
theorem noHead_none (l : List ByteArray) (h : ∀ x ∈ l, isHead x = false) : noHead l = l := by
  unfold noHead
  rw [List.filter_eq_self]
  intro x hx
  have := h x hx
  unfold isHead at this
  rw [this]
  rfl
theorem noHead_len (l : List ByteArray) : (noHead l).length ≤ l.length := List.length_filter_le _ _
structure Swept (l : List ByteArray) (i j : Nat) (ns : List ByteArray) : Prop where
  len : ns.length = l.length
  lt : i < j
  le : j ≤ l.length
  low : ns.take i = noHead (l.take j)
  high : ns.drop j = l.drop j
theorem Swept.get {l ns : List ByteArray} {i j : Nat} (h : Swept l i j ns) (hj : j < l.length) : ∃ hn : j < ns.length, ns[j] = l[j] := by
  have hn : j < ns.length := by rw [h.len]; exact hj
  refine ⟨hn, ?_⟩
  have h1 : ns[j]? = l[j]? := by
    have := congrArg (fun x => x[0]?) h.high
    simpa using this
  rw [List.getElem?_eq_getElem hn, List.getElem?_eq_getElem hj] at h1
  exact Option.some.inj h1
theorem Swept.skip {l ns : List ByteArray} {i j : Nat} (h : Swept l i j ns) (hj : j < l.length) (hx : isHead l[j] = true) : Swept l i (j + 1) ns := by
  refine ⟨h.len, by have := h.lt; omega, hj, by rw [noHead_take l j hj, if_pos hx, List.append_nil]; exact h.low, ?_⟩
  rw [← List.drop_drop, h.high, List.drop_drop]
theorem Swept.keep {l ns : List ByteArray} {i j : Nat} (h : Swept l i j ns) (hj : j < l.length) (hx : isHead l[j] = false) : Swept l (i + 1) (j + 1) (ns.set i l[j]) := by
  have hl := h.lt
  have hn := h.len
  refine ⟨by simpa using h.len, by omega, hj, ?_, ?_⟩
  · rw [noHead_take l j hj, if_neg (by rw [hx]; simp), ← h.low]
    apply List.ext_getElem?
    intro k
    rw [List.getElem?_take, List.getElem?_append]
    have e1 : (ns.take i).length = i := by simp; omega
    rw [e1]
    by_cases hk : k < i
    · rw [if_pos hk, if_pos (by omega), List.getElem?_set_ne (by omega), List.getElem?_take, if_pos hk]
    · rw [if_neg hk]
      by_cases hk2 : k = i
      · subst hk2
        rw [if_pos (by omega), List.getElem?_set_self (by omega)]
        simp
      · rw [if_neg (by omega)]
        symm
        rw [List.getElem?_eq_none_iff]
        simp
        omega
  · rw [List.drop_set_of_lt (by omega), ← List.drop_drop, h.high, List.drop_drop]
theorem Swept.start {l : List ByteArray} {i : Nat} (hi : i < l.length) (h1 : isHead l[i] = true) (h2 : ∀ x ∈ l.take i, isHead x = false) : Swept l i (i + 1) l :=
  ⟨rfl, by omega, hi, by rw [noHead_take l i hi, if_pos h1, List.append_nil, noHead_none _ h2], rfl⟩
theorem Swept.done {l ns : List ByteArray} {i : Nat} (h : Swept l i l.length ns) : ns.take i = noHead l := by rw [h.low, List.take_length]
theorem Swept.count {l ns : List ByteArray} {i : Nat} (h : Swept l i l.length ns) : (noHead l).length = i := by
  rw [← h.done]
  have := h.lt
  have := h.len
  simp
  omega
theorem str_zero (w : World) : (zeroValue 9).run Tryz.prog w = .ok (.string ⟨#[]⟩) w := by kernel_rfl
set_option maxHeartbeats 8000000 in
set_option maxRecDepth 100000 in
theorem delete_row {g cap : Nat} {l : List ByteArray} (h : Row w g cap l) (hl : l.length ≤ 1000000000) : Calls Tryz.prog 94 #[.slice (some ⟨g, 0, none⟩) l.length cap, .func (.func 95) #[] #[]] w fun e w' => e = .returned (.slice (some ⟨g, 0, none⟩) (noHead l).length cap) ∧ Hid (w'.ownsRow 0 9 1 (.slice (some ⟨g, 0, none⟩) (noHead l).length cap) (noHead l).length ((noHead l).map Value.string) ∧ Kp (fun k => k = g) w w') := by
  have hI := index_at h hl
  rcases idxH_spec l with ⟨e1, hall⟩ | ⟨i0, hi0, e1, ht, hall⟩
  · rw [e1] at hI
    have HE := Lib.hid (noHead_none l hall)
    have HR := Lib.hid h
    clear h hall e1
    go_enter Tryz.func94, Tryz.ntmps94
    go_wp2_with (go_at_call 146; refine hI.mono ?_; rintro e w1 ⟨rfl, rfl⟩)
    go_ret
    exact ⟨by rw [HE.out]; rfl, Lib.hid (by rw [HE.out]; exact ⟨HR.out, Kp.refl _ _⟩)⟩
  · rw [e1] at hI
    have HS := Lib.hid (Swept.start hi0 ht hall)
    have HR := Lib.hid h
    have hne1 : ((i0 : Int) == -1) = false := beq_eq_false_iff_ne.2 (by omega)
    have HI0 := Lib.hid hi0
    clear h hall e1 ht
    go_enter Tryz.func94, Tryz.ntmps94
    go_wp2_with (go_at_call 146; refine hI.mono ?_; rintro e w1 ⟨rfl, rfl⟩)
    go_loopg [5, 6] (l.length + 1) (fun kq v5 v6 w' => ∃ (i j : Nat) (ns : List ByteArray), v5 = .int .i64 i ∧ v6 = .int .i64 j ∧ Hid (j ≤ l.length) ∧ Hid (l.length < j + kq) ∧ Hid (Swept l i j ns) ∧ Hid (Row w' g cap ns ∧ Kp (fun k => k = g) w1 w'))
    case atStart => exact ⟨i0, i0 + 1, l, rfl, by go_num, Lib.hid (by have := HI0.out; omega), Lib.hid (by omega), HS, Lib.hid ⟨HR.out, Kp.refl _ _⟩⟩
    case round =>
      obtain ⟨i, j, ns, rfl, rfl, HJ, HK, HW, HC⟩ := hrel
      have hj := HJ.out
      have hij := HW.out.lt
      have hns := HW.out.len
      by_cases hlt : j < l.length
      · have d1 : decide ((j : Int) < (l.length : Int)) = true := decide_eq_true (by omega)
        have d2 : decide (j < l.length) = true := decide_eq_true hlt
        obtain ⟨x, hx⟩ : ∃ x, l[j] = x := ⟨_, rfl⟩
        have hcj := row_at HC.out.1 j (by omega)
        obtain ⟨_, hg⟩ := HW.out.get hlt
        rw [hg, hx] at hcj
        have hci := row_at HC.out.1 i (by omega)
        have hfi := row_fr HC.out.1 i
        have hil : (i : Int) < (l.length : Int) := by omega
        generalize ns[i] = old at hci
        have HX := Lib.hid hx
        clear hx hg
        cases gk with
        | zero => exact absurd HK.out (by omega)
        | succ k1 =>
          have hF := f54_at x wr
          cases hh : isHead x with
          | true =>
            rw [hh] at hF
            have HW2 := Lib.hid (HW.out.skip hlt (by rw [HX.out]; exact hh))
            go_wp2_with (go_at_call 95; refine hF.mono ?_; rintro e w2 ⟨rfl, rfl⟩)
            go_roundg k1
            case measure => omega
            case rel => exact ⟨i, j + 1, ns, rfl, by go_num, Lib.hid (by omega), Lib.hid (by have := HK.out; omega), HW2, HC⟩
          | false =>
            rw [hh] at hF
            have HW2 := Lib.hid (HW.out.keep hlt (by rw [HX.out]; exact hh))
            rw [HX.out] at HW2
            have HC2 : Hid (Row (wr.setCell ⟨g, i, none⟩ (.string x)) g cap (ns.set i x) ∧ Kp (fun k => k = g) w1 (wr.setCell ⟨g, i, none⟩ (.string x))) := Lib.hid ⟨row_set HC.out.1 i (by omega) x, HC.out.2.trans (kp_set g i _) (fun _ _ e => e)⟩
            go_wp2_with (go_at_call 95; refine hF.mono ?_; rintro e w2 ⟨rfl, rfl⟩)
            go_roundg k1
            case measure => omega
            case rel => exact ⟨i + 1, j + 1, ns.set i x, by go_num, by go_num, Lib.hid (by omega), Lib.hid (by have := HK.out; omega), HW2, HC2⟩
      · obtain rfl : j = l.length := by omega
        have hltz : ¬ (l.length : Int) < (l.length : Int) := by omega
        obtain ⟨cur, hg, hcap1, hcap2, hcap3, hcap4⟩ := row_heap HC.out.1
        rw [hns] at hcap1 hcap4
        have hcl : ∀ ty, (Builtin.clear_ #[65] ty #[.slice (some ⟨g, i, none⟩) (l.length - i) (cap - i)]).run Tryz.prog wr = .ok (.tuple #[]) (wr.setCells g i (List.replicate (l.length - i) (.string ⟨#[]⟩))) :=
          fun ty => Lib.run_clear_slice wr _ _ ty _ Tryz.underlying65 str_zero rfl rfl g i _ _ (by omega) (fun t ht => by rw [row_at HC.out.1 (i + t) (by omega)]; rfl) (fun t ht => row_fr HC.out.1 (i + t))
        obtain ⟨cur', hg', hs', ht', hk'⟩ := setCells_behind g 9 (0, 0) (List.replicate (l.length - i) (.string ⟨#[]⟩)) i wr cur hg
        have hdone := HW.out.done
        have hcount := HW.out.count
        have HE : Hid ((noHead l).length = i) := Lib.hid hcount
        have HZ : Hid (Row (wr.setCells g i (List.replicate (l.length - i) (.string ⟨#[]⟩))) g cap (noHead l) ∧ Kp (fun k => k = g) w1 (wr.setCells g i (List.replicate (l.length - i) (.string ⟨#[]⟩)))) :=
          Lib.hid ⟨row_mk hg' (by omega) hcap2 (by omega) (by rw [hcount, ht', ← hdone, List.map_take, ← hcap4, List.take_take, Nat.min_eq_left (by omega)]), HC.out.2.trans hk' (fun _ _ e => e)⟩
        clear hg hg' hs' ht' hk' hdone hcount hcap3 hcap4
        go_wp2_with fail
        go_ret
        exact ⟨by rw [HE.out]; rfl, HZ⟩
set_option maxHeartbeats 4000000 in
set_option maxRecDepth 100000 in
theorem index_nil (w : World) : Calls Tryz.prog 146 #[.slice none 0 0, .func (.func 95) #[] #[]] w fun e w' => e = .returned (.int .i64 (-1)) ∧ w' = w := by
  go_enter Tryz.func146, Tryz.ntmps146
  go_wp2_with fail
  go_loopg [8] 1 (fun kq v w' => v = .int .i64 0 ∧ w' = w)
  case atStart => exact ⟨rfl, rfl⟩
  case round =>
    obtain ⟨rfl, rfl⟩ := hrel
    go_wp2_with fail
    go_ret
    exact ⟨rfl, rfl⟩
set_option maxHeartbeats 4000000 in
set_option maxRecDepth 100000 in
theorem delete_nil (w : World) : Calls Tryz.prog 94 #[.slice none 0 0, .func (.func 95) #[] #[]] w fun e w' => e = .returned (.slice none 0 0) ∧ w' = w := by
  have hI := index_nil w
  go_enter Tryz.func94, Tryz.ntmps94
  go_wp2_with (go_at_call 146; refine hI.mono ?_; rintro e w1 ⟨rfl, rfl⟩)
  go_ret
  exact ⟨rfl, rfl⟩
end
end Go.Proofs.YteccaekalcjihaaGreatDoor.Rend
set_option linter.unusedVariables false
set_option linter.unusedSimpArgs false
namespace Go.Proofs.YteccaekalcjihaaGreatDoor.Rend
open Go.RowKit Go.Lib Go.Proofs.YteccaekalcjihaaGreatDoor.Buf Go.Proofs.YteccaekalcjihaaGreatDoor.Flow Go.Proofs.YteccaekalcjihaaGreatDoor.PTn
def tok (k : Int) (n t : ByteArray) (A : Option Addr) (l c : Nat) (b : Bool) : Value := .agg #[.int .i64 k, .string n, .string t, .slice A l c, .bool b]
def tcells (k : Int) (n t : ByteArray) (A : Option Addr) (l c : Nat) (b : Bool) : Obj := .cells #[.int .i64 k, .string n, .string t, .slice A l c, .bool b] 40
section
variable {w w' w1 w2 : World} {p : Nat} {F G : Nat → Prop} {s s1 s2 : Pg}
theorem own_len {v : Value} {e : TypeId} {n : Nat} {xs : List Value} (h : w.ownsRow 0 e 1 v n xs) : ∃ a c, v = .slice a n c := by
  rcases h.2 with ⟨rfl, rfl⟩ | ⟨g, cap, cur, rfl, _⟩
  · exact ⟨none, 0, rfl⟩
  · exact ⟨_, cap, rfl⟩
theorem drew_below (w : World) : Below w.heap.size w w.drew := ⟨rfl, rfl, rfl, Nat.le_refl _, fun _ _ => rfl⟩
theorem pg_put_d (h : Hid (PDoes w w1 p F s)) {f : Nat} (hc : w1.cell? ⟨p, 0, none⟩ = some (.pointer (some ⟨f, 0, none⟩))) (t : ByteArray) (k : Bool) (hb : Hid (s.m.size + t.size ≤ 1000000000)) : Calls Tryz.prog 41 #[.pointer (some ⟨f, 0, none⟩), .string t, .bool k] w1.drew fun e w' => e = .returned (.tuple #[]) ∧ Hid (PDoes w w' p F { s with m := s.m.put k t.data.toList }) := by
  obtain ⟨F1, h1, h2, h3⟩ := h.out
  have h1' := h1.below (drew_below w1)
  refine (pg_put (Lib.hid h1') (f := f) hc t k hb).mono ?_
  rintro e w' ⟨h4, h5⟩
  exact ⟨h4, Lib.hid (PDoes.trans' h2.drew h3 h5.out)⟩
set_option maxHeartbeats 4000000 in
set_option maxRecDepth 100000 in
theorem text_at (h : Pge w p F s) (B : Nat) (hv : w.cell? ⟨B, 0, none⟩ = some (.pointer (some ⟨p, 0, none⟩))) (hBl : B < w.heap.size) (k : Int) (n t : ByteArray) (A : Option Addr) (l c : Nat) (b : Bool) (hb : s.m.size + t.size ≤ 1000000000) :
    Calls Tryz.prog 40 #[tok k n t A l c b, .pointer (some ⟨B, 0, none⟩)] w fun e w' => e = .returned (.tuple #[]) ∧ Hid (PDoes w w' p F (s.text t)) := by
  have hbel : Below w.heap.size w (w.alloc (tcells k n t A l c b)) := (Below.refl _ w).alloc (Nat.le_refl _) _
  have HP := Lib.hid (h.refl.below hbel)
  obtain ⟨f, v, H, hp⟩ := h.below hbel
  obtain ⟨c0, c1, c2, hf⟩ := page_cells hp
  obtain ⟨va, vc, rfl⟩ := own_len hp.row
  have cB : (w.alloc (tcells k n t A l c b)).cell? ⟨B, 0, none⟩ = some (.pointer (some ⟨p, 0, none⟩)) := (hbel.cell (p := ⟨B, 0, none⟩) hBl).trans hv
  have HB := Lib.hid hb
  have hs : s.text t = if s.names = [] then { s with m := s.m.put (decide (0 < s.kept)) t.data.toList } else s := rfl
  clear h hp hbel hf hv hb
  unfold tcells at *
  unfold tok
  by_cases hn : s.names = []
  · have d1 : ((s.names.length : Int) == 0) = true := by rw [hn]; rfl
    rw [if_pos hn] at hs
    have HS := Lib.hid hs
    clear hs hn
    have d2 : decide ((0 : Int) < (s.kept : Int)) = decide (0 < s.kept) := by
      by_cases e : 0 < s.kept
      · rw [decide_eq_true e]; exact decide_eq_true (by omega)
      · rw [decide_eq_false e]; exact decide_eq_false (by omega)
    go_enter Tryz.func40, Tryz.ntmps40
    go_wp2_with fail
    go_region_with (go_at_call 41; refine (pg_put_d HP c0 t _ HB).mono ?_; rintro e w2 ⟨rfl, h2⟩)
    all_goals (
      go_wp2_with fail
      go_end0
      exact ⟨rfl, by rw [HS.out]; exact h2⟩)
  · have d1 : ((s.names.length : Int) == 0) = false := by
      rw [beq_eq_false_iff_ne]
      intro e
      exact hn (List.length_eq_zero_iff.1 (by omega))
    rw [if_neg hn] at hs
    have HS := Lib.hid hs
    clear hs hn
    go_enter Tryz.func40, Tryz.ntmps40
    go_wp2_with fail
    go_end0
    exact ⟨rfl, by rw [HS.out]; exact HP⟩
end
end Go.Proofs.YteccaekalcjihaaGreatDoor.Rend
set_option linter.unusedVariables false
set_option linter.unusedSimpArgs false
namespace Go.Proofs.YteccaekalcjihaaGreatDoor.Rend
open Go.RowKit Go.Lib Go.Shelf Go.Proofs.YteccaekalcjihaaGreatDoor.Buf Go.Proofs.YteccaekalcjihaaGreatDoor.Flow Go.Proofs.YteccaekalcjihaaGreatDoor.PTn
attribute [local go_sem] Oper.semAt_some
def fromBack (l : List ByteArray) (j : Nat) : Nat × ByteArray := (l.length - 1 - j, (l[l.length - 1 - j]?).getD ByteArray.empty)
set_option maxRecDepth 100000 in
set_option maxHeartbeats 2000000 in
theorem back1_in (F : Fence) (n : Nat) (h8 : F.fn 151) (hro : F.round = none) (hn : 1 ≤ n) (r Bs n₀ g cap : Nat) (l : List ByteArray) (hl : l.length ≤ 1000000000) (hb : g < n₀) (hBn : Bs < n₀) (J Jx : List Nat → World → Prop)
    (hY : ∀ pre x W, J pre W → pre.length < l.length → YieldAt F (n - 1) Tryz.prog r #[.int .i64 ((fromBack l x).1 : Int), .string (fromBack l x).2] W fun e W' =>
      (e = .returned (.bool true) ∧ J (pre ++ [x]) W' ∧ Below n₀ W W') ∨ (e = .returned (.bool false) ∧ Jx (pre ++ [x]) W'))
    (W : World) (hBs : W.cell? ⟨Bs, 0, none⟩ = some (.slice (some ⟨g, 0, none⟩) l.length cap)) (hc : Row W g cap l) (h0 : J [] W) :
    CallsIn F n Tryz.prog 151 #[.func (.yield r) #[] #[], .pointer (some ⟨Bs, 0, none⟩)] W fun e W' => (∃ v, e = .returned v) ∧
      ((∃ ys, ys = List.range l.length ∧ J ys W') ∨ (∃ pre, (∃ k, k ≤ l.length ∧ pre = List.range k) ∧ Jx pre W')) := by
  refine callsIn_of_wp Tryz.func151 rfl h8 ?_ hro
  simp only [Tryz.ntmps151, List.size_toArray, List.length_cons, List.length_nil, Nat.reduceAdd, Nat.reduceSub, Array.replicate_succ, Array.replicate_zero, List.push_toArray, List.append_toArray, List.nil_append, List.cons_append]
  gi_wp2
  gi_loopw [3] (fun i wr => ∃ k : Nat, k ≤ l.length ∧ i = .int .i64 ((l.length : Int) - 1 - k) ∧ J (List.range k) wr ∧ Below n₀ W wr)
    (fun i _ => (RowKit.intOf i + 1).toNat)
  case atStart => exact ⟨0, Nat.zero_le _, by go_num, h0, Below.refl _ _⟩
  case round =>
    obtain ⟨k, hk, rfl, hJs, hnx⟩ := hrel
    have hBs' := (hnx.cell (p := ⟨Bs, 0, none⟩) hBn).trans hBs
    by_cases hlt : k < l.length
    · obtain ⟨i, hi⟩ : ∃ i : Nat, i = l.length - 1 - k := ⟨_, rfl⟩
      have e1 : (l.length : Int) - 1 - k = (i : Int) := by omega
      have hil : i < l.length := by omega
      rw [e1]
      have hfb : fromBack l k = (i, l[i]) := by unfold fromBack; rw [← hi, List.getElem?_eq_getElem hil]; rfl
      have hcx := (hnx.cell (p := ⟨g, i, none⟩) hb).trans (row_at hc i hil)
      obtain ⟨x, hx⟩ : ∃ x, l[i] = x := ⟨_, rfl⟩
      rw [hx] at hcx hfb
      obtain ⟨fn, tmps, assign, body, hy, hR⟩ := hY _ k wr hJs (by rw [List.length_range]; exact hlt)
      rw [hfb] at hy
      dsimp only at hy
      have d1 : decide ((0 : Int) ≤ (i : Int)) = true := decide_eq_true (by omega)
      have HI := Lib.hid hi
      have HX := Lib.hid hx
      clear hi hx e1
      gi_wp2
      refine hR.mono ?_
      rintro e W3 (⟨rfl, hJ3, hk3⟩ | ⟨rfl, hJx3⟩)
      · gi_wp2
        go_roundw
        case rel => exact ⟨k + 1, by omega, by (have := HI.out; have hw : wrap64 ((i : Int) - 1) = (l.length : Int) - 1 - ((k + 1 : Nat) : Int) := (by unfold wrap64; omega); first | rw [hw] | (congr 1; omega)), by rw [List.range_succ]; exact hJ3, hnx.trans hk3⟩
        case measure => have := HI.out; simp [RowKit.intOf] <;> omega
      · gi_wp2
        refine bodyPost_ret (results_none rfl _ _ _) rfl ?_
        exact ⟨⟨_, rfl⟩, .inr ⟨_, ⟨k + 1, by omega, by rw [List.range_succ]⟩, hJx3⟩⟩
    · obtain rfl : k = l.length := by omega
      have e1 : (l.length : Int) - 1 - l.length = -1 := by omega
      rw [e1]
      gi_wp2
      go_end0
      exact ⟨⟨_, rfl⟩, .inl ⟨_, rfl, hJs⟩⟩
set_option maxRecDepth 100000 in
set_option maxHeartbeats 1000000 in
theorem back1_nil_in (F : Fence) (n : Nat) (h8 : F.fn 151) (hro : F.round = none) (r Bs : Nat) (J : List Nat → World → Prop) (W : World) (hBs : W.cell? ⟨Bs, 0, none⟩ = some (.slice none 0 0)) (h0 : J [] W) :
    CallsIn F n Tryz.prog 151 #[.func (.yield r) #[] #[], .pointer (some ⟨Bs, 0, none⟩)] W fun e W' => (∃ v, e = .returned v) ∧ J [] W' := by
  refine callsIn_of_wp Tryz.func151 rfl h8 ?_ hro
  simp only [Tryz.ntmps151, List.size_toArray, List.length_cons, List.length_nil, Nat.reduceAdd, Nat.reduceSub, Array.replicate_succ, Array.replicate_zero, List.push_toArray, List.append_toArray, List.nil_append, List.cons_append]
  gi_wp2
  gi_loopw [3] (fun i wr => i = .int .i64 (-1) ∧ J [] wr) (fun _ _ => 0)
  case atStart => exact ⟨by go_num, h0⟩
  case round =>
    obtain ⟨rfl, hJs⟩ := hrel
    gi_wp2
    go_end0
    exact ⟨⟨_, rfl⟩, hJs⟩
set_option maxHeartbeats 1000000 in
theorem back_in (F : Fence) (n : Nat) (h6 : F.fn 99) (hro : F.round = none) (a : Option Addr) (len cap : Nat) (w : World) :
    CallsIn F n Tryz.prog 99 #[.slice a len cap] w fun e w' => e = .returned (.func (.func 151) #[] #[.pointer (some ⟨w.heap.size, 0, none⟩)]) ∧ w' = w.alloc (.cells #[.slice a len cap] 65) := by
  refine callsIn_of_wp Tryz.func99 rfl h6 ?_ hro
  simp only [Tryz.ntmps99, List.size_toArray, List.length_cons, List.length_nil, Nat.reduceAdd, Nat.reduceSub, Array.replicate_succ, Array.replicate_zero, List.push_toArray, List.append_toArray, List.nil_append, List.cons_append]
  gi_wp2
  go_ret
  exact ⟨rfl, rfl⟩
def Names (W : World) (n₀ : Nat) (sv : Value) (l : List ByteArray) : Prop := (sv = .slice none 0 0 ∧ l = []) ∨ ∃ g cap, sv = .slice (some ⟨g, 0, none⟩) l.length cap ∧ g < n₀ ∧ Row W g cap l
theorem Names.below {n₀ : Nat} {W W' : World} {sv : Value} {l : List ByteArray} (h : Names W n₀ sv l) (hb : Below n₀ W W') : Names W' n₀ sv l := by
  rcases h with h | ⟨g, cap, h1, h2, h3⟩
  · exact .inl h
  · refine .inr ⟨g, cap, h1, h2, ?_⟩
    obtain ⟨cur, k1, k2, k3, k4, k5⟩ := row_heap h3
    exact row_mk ((hb.block g h2).trans k1) k2 k3 k4 k5
theorem names_of {w : World} {v : Value} {l : List ByteArray} (h : w.ownsRow 0 9 1 v l.length (l.map Value.string)) : Names w w.heap.size v l := by
  rcases h.2 with ⟨e, h0⟩ | ⟨g, cap, cur, rfl, _, hg, _⟩
  · exact .inl ⟨e, List.length_eq_zero_iff.1 h0⟩
  · exact .inr ⟨g, cap, rfl, Buf.lt_of_heap hg, h⟩
theorem back_stops (F : Fence) (n : Nat) (h8 : F.fn 151) (hro : F.round = none) (hn : 1 ≤ n) (Bs n₀ : Nat) (sv : Value) (l : List ByteArray) (hl : l.length ≤ 1000000000) (w : World) (hBs : Bs < n₀) (hn₀ : n₀ ≤ w.heap.size)
    (hc : w.cell? ⟨Bs, 0, none⟩ = some sv) (hI : Names w n₀ sv l) :
    SeqStopsK F n Tryz.prog 151 #[.pointer (some ⟨Bs, 0, none⟩)] (fun x : Nat => #[Value.int .i64 ((fromBack l x).1 : Int), Value.string (fromBack l x).2]) (Below n₀) (fun ys => ys = List.range l.length)
      (fun pre => ∃ k, k ≤ l.length ∧ pre = List.range k) l.length w := fun r J Jx W hW _ _ hY h0 => by
  have hc' := ((hW.mono hn₀).cell (p := ⟨Bs, 0, none⟩) hBs).trans hc
  rcases hI.below (hW.mono hn₀) with ⟨rfl, rfl⟩ | ⟨g, cap, rfl, hb, hr⟩
  · exact (back1_nil_in F n h8 hro r Bs J W hc' h0).mono fun e W' ⟨he, hj⟩ => ⟨he, .inl ⟨_, rfl, hj⟩⟩
  · exact back1_in F n h8 hro hn r Bs n₀ g cap l hl hb hBs J Jx hY W hc' hr h0
theorem lastN_no {n : ByteArray} : ∀ {l : List ByteArray}, (∀ x ∈ l, x.toList ≠ n.toList) → lastN n l = none
  | [], _ => rfl
  | x :: l, h => by
    simp only [lastN, lastN_no (l := l) (fun z hz => h z (List.mem_cons_of_mem _ hz))]
    rw [if_neg (h x List.mem_cons_self)]
theorem lastN_none {n : ByteArray} {l : List ByteArray} (h : ∀ j, j < l.length → (fromBack l j).2.toList ≠ n.toList) : lastN n l = none := by
  refine lastN_no (fun x hx => ?_)
  obtain ⟨i, hi, rfl⟩ := List.getElem_of_mem hx
  have := h (l.length - 1 - i) (by omega)
  unfold fromBack at this
  rw [show l.length - 1 - (l.length - 1 - i) = i by omega, List.getElem?_eq_getElem hi] at this
  exact this
theorem lastN_some {n : ByteArray} : ∀ {l : List ByteArray} {i : Nat} (hi : i < l.length), l[i].toList = n.toList → (∀ x ∈ l.drop (i + 1), x.toList ≠ n.toList) → lastN n l = some i
  | x :: l, 0, _, h1, h2 => by
    have : lastN n l = none := lastN_no (by simpa using h2)
    simp only [lastN, this]
    exact if_pos h1
  | x :: l, i + 1, hi, h1, h2 => by
    have := lastN_some (n := n) (l := l) (i := i) (by simpa using hi) (by simpa using h1) (by simpa using h2)
    simp only [lastN, this]
theorem lastN_back {n : ByteArray} {l : List ByteArray} {k : Nat} (hk : k < l.length) (h1 : (fromBack l k).2.toList = n.toList) (h2 : ∀ j, j < k → (fromBack l j).2.toList ≠ n.toList) : lastN n l = some (fromBack l k).1 := by
  have hi : l.length - 1 - k < l.length := by omega
  unfold fromBack at h1
  rw [List.getElem?_eq_getElem hi] at h1
  show lastN n l = some (l.length - 1 - k)
  refine lastN_some hi h1 (fun x hx => ?_)
  obtain ⟨j, hj, rfl⟩ := List.getElem_of_mem hx
  simp at hj
  have := h2 (k - 1 - j) (by omega)
  unfold fromBack at this
  rw [List.getElem?_eq_getElem (by omega)] at this
  simp only [Option.getD_some] at this
  rw [List.getElem_drop]
  have e : l.length - 1 - k + 1 + j = l.length - 1 - (k - 1 - j) := by omega
  simp only [e] at *
  exact this
end Go.Proofs.YteccaekalcjihaaGreatDoor.Rend
set_option linter.unusedVariables false
set_option linter.unusedSimpArgs false
namespace Go.Proofs.YteccaekalcjihaaGreatDoor.Rend
open Go.RowKit Go.Lib Go.Proofs.YteccaekalcjihaaGreatDoor.Buf Go.Proofs.YteccaekalcjihaaGreatDoor.Flow Go.Proofs.YteccaekalcjihaaGreatDoor.PTn
section
variable {w w' w1 w2 : World} {p T : Nat} {F G : Nat → Prop} {s s1 s2 : Pg}
structure PT (w0 w : World) (p : Nat) (F : Nat → Prop) (T : Nat) (o : Obj) (s : Pg) : Prop where
  page : PDoes w0 w p F s
  tok : w.heap[T]? = some o
  own : ¬ F T
  lt : T < w0.heap.size
theorem PT.does {w0 w w' : World} {o : Obj} {s s' : Pg} (h : PT w0 w p F T o s) (hd : ∀ F1, Pge w p F1 s → PDoes w w' p F1 s') : PT w0 w' p F T o s' := by
  obtain ⟨F1, h1, h2, h3⟩ := h.page
  have hd1 := hd F1 h1
  refine ⟨PDoes.trans' h2 h3 hd1, ?_, h.own, h.lt⟩
  obtain ⟨F2, h4, h5, h6⟩ := hd1
  refine (h5.block T (Buf.lt_of_heap h.tok) (fun e => ?_)).trans h.tok
  rcases h3 T e with e | e
  · exact h.own e
  · have := h.lt
    omega
theorem PT.below {w0 w w' : World} {o : Obj} {s : Pg} (h : PT w0 w p F T o s) (hb : Below w.heap.size w w') : PT w0 w' p F T o s := h.does (fun F1 h1 => h1.refl.below hb)
theorem PT.cells {w0 w : World} {k : Int} {n t : ByteArray} {A : Option Addr} {l c : Nat} {b : Bool} {s : Pg} (h : PT w0 w p F T (tcells k n t A l c b) s) :
    ∃ f a vc, w.cell? ⟨p, 0, none⟩ = some (.pointer (some ⟨f, 0, none⟩)) ∧ w.cell? ⟨p, 1, none⟩ = some (.slice a s.names.length vc) ∧ w.cell? ⟨p, 2, none⟩ = some (.int .i64 s.kept) ∧ w.frozen? ⟨p, 1, none⟩ = false ∧ w.frozen? ⟨p, 2, none⟩ = false ∧ w.cell? ⟨T, 1, none⟩ = some (.string n) := by
  obtain ⟨F1, ⟨f, v, G, hp⟩, _⟩ := h.page
  obtain ⟨c0, c1, c2, hf⟩ := page_cells hp
  obtain ⟨va, vc, rfl⟩ := own_len hp.row
  exact ⟨f, va, vc, c0, c1, c2, hf 1, hf 2, by rw [Lib.cell_of_heap h.tok]; rfl⟩
abbrev TK (w0 w : World) (p : Nat) (F : Nat → Prop) (T : Nat) (k : Int) (n t : ByteArray) (A : Option Addr) (l c : Nat) (b : Bool) (s : Pg) : Prop := PT w0 w p F T (tcells k n t A l c b) s
theorem infoStr : (Tryz.prog.info? 9).map (fun i => (i.zero, i.size, i.bytes)) = some (some (.string ⟨#[]⟩), 1, 16) := by kernel_rfl
section
variable {w0 : World} {k : Int} {n t : ByteArray} {A : Option Addr} {l c : Nat} {b : Bool}
theorem pt_hides (h : Hid (TK w0 w p F T k n t A l c b s)) : Calls Tryz.prog 96 #[.string n] w fun e w' => e = .returned (.bool (hasN LH n)) ∧ Hid (TK w0 w' p F T k n t A l c b s) := by
  refine (hides_calls n w).mono ?_
  rintro e w' ⟨h1, h2⟩
  exact ⟨h1, Lib.hid (h.out.below h2)⟩
theorem pt_keeps (h : Hid (TK w0 w p F T k n t A l c b s)) : Calls Tryz.prog 98 #[.string n] w fun e w' => e = .returned (.bool (hasN LK n)) ∧ Hid (TK w0 w' p F T k n t A l c b s) := by
  refine (keeps_calls n w).mono ?_
  rintro e w' ⟨h1, h2⟩
  exact ⟨h1, Lib.hid (h.out.below h2)⟩
theorem pt_lines (h : Hid (TK w0 w p F T k n t A l c b s)) (hb : Hid (s.m.ends ≤ 900000000)) : Calls Tryz.prog 97 #[.pointer (some ⟨p, 0, none⟩), .string n] w fun e w' => e = .returned (.tuple #[]) ∧ Hid (TK w0 w' p F T k n t A l c b { s with m := tagM n s.m }) := by
  obtain ⟨F1, h1, h2, h3⟩ := h.out.page
  refine (tag_at h1 n hb.out).mono ?_
  rintro e w' ⟨h4, h5⟩
  refine ⟨h4, Lib.hid ⟨PDoes.trans' h2 h3 h5.out, ?_, h.out.own, h.out.lt⟩⟩
  obtain ⟨F2, h6, h7, h8⟩ := h5.out
  refine (h7.block T (Buf.lt_of_heap h.out.tok) (fun e => ?_)).trans h.out.tok
  rcases h3 T e with e | e
  · exact h.out.own e
  · have := h.out.lt
    omega
theorem pt_kept (h : TK w0 w p F T k n t A l c b s) (x : Nat) : TK w0 (w.setCell ⟨p, 2, none⟩ (.int .i64 x)) p F T k n t A l c b { s with kept := x } :=
  h.does (fun F1 h1 => by
    obtain ⟨f, v, G, hp⟩ := h1
    exact pd_kept hp x)
theorem pt_row (h : Hid (TK w0 w p F T k n t A l c b s)) {a : Option Addr} {vc : Nat} (hc : w.cell? ⟨p, 1, none⟩ = some (.slice a s.names.length vc)) :
    (∀ o, (w.alloc o).drew.ownsRow 0 9 1 (.slice a s.names.length vc) s.names.length (s.names.map Value.string)) ∧ (∀ o, (w.alloc o).cell? ⟨p, 1, none⟩ = some (.slice a s.names.length vc)) ∧ (∀ o, (w.alloc o).cell? ⟨T, 1, none⟩ = some (.string n)) := by
  obtain ⟨F1, ⟨f, v, G, hp⟩, h2, h3⟩ := h.out.page
  obtain ⟨c0, c1, c2, hf⟩ := page_cells hp
  rw [c1] at hc
  have hv : v = .slice a s.names.length vc := Option.some.inj hc
  subst hv
  refine ⟨fun o => (hp.row.alloc o).drew, fun o => ?_, fun o => ?_⟩
  · exact (World.cell?_of_block (a := ⟨p, 1, none⟩) (Lib.alloc_old w o p (Buf.lt_of_heap hp.heap))).trans c1
  · have : w.cell? ⟨T, 1, none⟩ = some (.string n) := by rw [Lib.cell_of_heap h.out.tok]; rfl
    exact (World.cell?_of_block (a := ⟨T, 1, none⟩) (Lib.alloc_old w o T (Buf.lt_of_heap h.out.tok))).trans this
theorem pt_appended (h : Hid (TK w0 w p F T k n t A l c b s)) {a : Option Addr} {vc : Nat} (hc : w.cell? ⟨p, 1, none⟩ = some (.slice a s.names.length vc)) {o : Obj} {g cap : Nat} {w2 : World}
    (hown : w2.ownsRow 0 9 1 (.slice (some ⟨g, 0, none⟩) (s.names.length + 1) cap) (s.names.length + 1) (s.names.map Value.string ++ [.string n])) (hgrow : (w.alloc o).drew.grownBy w2 (Value.slice a s.names.length vc).ownBlock) (hat : (Value.slice a s.names.length vc).ownBlock = some g ∨ g = w.heap.size + 1) :
    w2.cell? ⟨p, 1, none⟩ = some (.slice a s.names.length vc) ∧ w2.frozen? ⟨p, 1, none⟩ = false ∧ Hid (TK w0 (w2.setCell ⟨p, 1, none⟩ (.slice (some ⟨g, 0, none⟩) (s.names.length + 1) cap)) p F T k n t A l c b { s with names := s.names ++ [n] }) := by
  obtain ⟨F1, ⟨f, v, G, hp⟩, h2, h3⟩ := h.out.page
  obtain ⟨c0, c1, c2, hf⟩ := page_cells hp
  rw [c1] at hc
  have hv : v = .slice a s.names.length vc := Option.some.inj hc
  subst hv
  have hk : Kp (fun k => (Value.slice a s.names.length vc).ownBlock = some k) w w2 := ((Kp.refl _ w).alloc o).drew.grown hgrow (fun k hk => Or.inl hk)
  have hpe : w2.heap[p]? = w.heap[p]? := hk.block p (Buf.lt_of_heap hp.heap) (fun e => (hp.nv p e).2 rfl)
  refine ⟨(World.cell?_of_block (a := ⟨p, 1, none⟩) hpe).trans c1, (World.frozen?_of_block (a := ⟨p, 1, none⟩) hpe).trans (hf 1), Lib.hid (h.out.does (fun F2 hp2 => ?_))⟩
  obtain ⟨f2, v2, G2, hp2⟩ := hp2
  have h6 := (page_cells hp2).2.1
  rw [c1] at h6
  have hv2 := Option.some.inj h6
  subst hv2
  refine pd_row hp2 hk ?_ (fun k e => ?_)
  · rw [List.length_append, List.map_append]
    exact hown
  · simp [Value.ownBlock] at e
    subst e
    rcases hat with e | e
    · exact Or.inl e
    · exact Or.inr (by omega)
theorem pt_delete (h : Hid (TK w0 w p F T k n t A l c b s)) (hl : Hid (s.names.length ≤ 1000000000)) {a : Option Addr} {vc : Nat} (hc : w.cell? ⟨p, 1, none⟩ = some (.slice a s.names.length vc)) :
    Calls Tryz.prog 94 #[.slice a s.names.length vc, .func (.func 95) #[] #[]] w fun e w' => ∃ a' c', e = .returned (.slice a' (noHead s.names).length c') ∧ (∃ v0, w'.cell? ⟨p, 1, none⟩ = some v0) ∧ w'.frozen? ⟨p, 1, none⟩ = false ∧ Hid (TK w0 (w'.setCell ⟨p, 1, none⟩ (.slice a' (noHead s.names).length c')) p F T k n t A l c b { s with names := noHead s.names }) := by
  obtain ⟨F1, ⟨f, v, G, hp⟩, h2, h3⟩ := h.out.page
  obtain ⟨c0, c1, c2, hf⟩ := page_cells hp
  rw [c1] at hc
  have hv : v = .slice a s.names.length vc := Option.some.inj hc
  subst hv
  rcases hp.row.2 with ⟨e0, h0⟩ | ⟨g, cap, cur, e0, _⟩
  · simp only [Value.slice.injEq] at e0
    obtain ⟨rfl, e1, rfl⟩ := e0
    have hnm : s.names = [] := List.length_eq_zero_iff.1 e1
    rw [e1]
    refine (delete_nil w).mono ?_
    rintro e w' ⟨h4, rfl⟩
    refine ⟨none, 0, by rw [h4, hnm]; rfl, ⟨_, c1⟩, hf 1, Lib.hid (h.out.does (fun F2 hp2 => ?_))⟩
    obtain ⟨f2, v2, G2, hp2⟩ := hp2
    have h5 := (page_cells hp2).2.1
    rw [c1] at h5
    have hv2 := Option.some.inj h5
    subst hv2
    refine pd_row hp2 (Kp.refl _ _) ?_ (fun k e => by simp [Value.ownBlock] at e)
    rw [hnm]
    exact World.ownsRow_nil _ _ _ _
  · simp only [Value.slice.injEq] at e0
    obtain ⟨rfl, _, rfl⟩ := e0
    refine (delete_row (g := g) (cap := vc) (l := s.names) hp.row hl.out).mono ?_
    rintro e w' ⟨h4, h5⟩
    have hk := h5.out.2
    have hne : p ≠ g := fun e => (hp.nv g rfl).2 e.symm
    have hpe : w'.heap[p]? = w.heap[p]? := hk.block p (Buf.lt_of_heap hp.heap) hne
    refine ⟨_, _, h4, ⟨_, (World.cell?_of_block (a := ⟨p, 1, none⟩) hpe).trans c1⟩, (World.frozen?_of_block (a := ⟨p, 1, none⟩) hpe).trans (hf 1), Lib.hid (h.out.does (fun F2 hp2 => ?_))⟩
    obtain ⟨f2, v2, G2, hp2⟩ := hp2
    have h6 := (page_cells hp2).2.1
    rw [c1] at h6
    have hv2 := Option.some.inj h6
    subst hv2
    exact pd_row hp2 (hk.mono (fun k _ e => by rw [e]; rfl)) h5.out.1 (fun k e => Or.inl e)
end
end
end Go.Proofs.YteccaekalcjihaaGreatDoor.Rend
set_option linter.unusedVariables false
set_option linter.unusedSimpArgs false
namespace Go.Proofs.YteccaekalcjihaaGreatDoor.Rend
open Go.RowKit Go.Lib Go.Proofs.YteccaekalcjihaaGreatDoor.Buf Go.Proofs.YteccaekalcjihaaGreatDoor.Flow Go.Proofs.YteccaekalcjihaaGreatDoor.PTn
section
variable {w w' w1 w2 : World} {p T : Nat} {F G : Nat → Prop} {s s1 s2 : Pg}
theorem pt_new (h : Pge w p F s) (k : Int) (n t : ByteArray) (A : Option Addr) (l c : Nat) (b : Bool) : TK (w.alloc (tcells k n t A l c b)) (w.alloc (tcells k n t A l c b)) p F w.heap.size k n t A l c b s := by
  have hbel : Below w.heap.size w (w.alloc (tcells k n t A l c b)) := (Below.refl _ w).alloc (Nat.le_refl _) _
  refine ⟨(h.below hbel).refl, heap_alloc_new w _, fun e => ?_, by simp⟩
  obtain ⟨f, v, G, hp⟩ := h
  have := hp.fin _ e
  omega
theorem pt_out {k : Int} {n t : ByteArray} {A : Option Addr} {l c : Nat} {b : Bool} (h : TK (w.alloc (tcells k n t A l c b)) w' p F w.heap.size k n t A l c b s) : PDoes w w' p F s :=
  PDoes.of_below ((Below.refl _ w).alloc (Nat.le_refl _) _) h.page
theorem one_str (n : ByteArray) : ∀ u ∈ [Value.string n], u.oneCell' = true := by
  intro u hu
  simp at hu
  rw [hu]
  rfl
set_option maxHeartbeats 4000000 in
set_option maxRecDepth 100000 in
theorem start_full (h : Pge w p F s) (k : Int) (n t : ByteArray) (A : Option Addr) (l c : Nat) (b : Bool) (hb : s.m.ends ≤ 900000000) (hl : s.names.length ≤ 1000000000) (hk : s.kept ≤ 1000000000) (hB : ¬ n.toList = tBody) (hH : hasN LH n = false) (hN : ¬ bodyN n s.names = []) :
    Calls Tryz.prog 38 #[.pointer (some ⟨p, 0, none⟩), tok k n t A l c b] w fun e w' => e = .returned (.tuple #[]) ∧ Hid (PDoes w w' p F (s.start n)) := by
  have HP := Lib.hid (pt_new h k n t A l c b)
  obtain ⟨f, a, vc, c0, c1, c2, f1, f2, cT⟩ := HP.out.cells
  have HL := Lib.hid hl
  have HKK := Lib.hid hk
  have HB := Lib.hid hb
  have hbn : bodyN n s.names = s.names := by unfold bodyN; rw [if_neg hB]
  have q1 : (n.toList == [98, 111, 100, 121]) = false := beq_eq_false_iff_ne.2 hB
  have HS : Hid (s.start n = { s with names := s.names }) := Lib.hid (by unfold Pg.start; rw [if_neg (by rw [hH]; simp), if_neg hN, hbn])
  rw [hbn] at hN
  have hpos : (0 : Int) < (s.names.length : Int) := by have := List.length_pos_iff.2 hN; omega
  have q2 : decide ((0 : Int) < (s.names.length : Int)) = true := decide_eq_true hpos
  clear h hb hl hk hB hbn hN
  unfold tok
  unfold tcells at c0 c1 c2 f1 f2 cT
  go_enter Tryz.func38, Tryz.ntmps38
  go_wp2_with (first
    | (go_at_call 96; refine (pt_hides HP).mono ?_; rw [hH]; rintro e w3 ⟨rfl, h3⟩; obtain ⟨f4, a4, vc4, e0, e1, e2, e3, e4, eT⟩ := h3.out.cells))
  (try simp only [Exit.inBlock, Exit.then])
  refine bodyPost_ret (results_none rfl _ _ _) rfl ?_
  exact ⟨rfl, by rw [HS.out]; exact Lib.hid (pt_out h3.out)⟩
set_option maxHeartbeats 4000000 in
set_option maxRecDepth 100000 in
theorem start_plain (h : Pge w p F s) (k : Int) (n t : ByteArray) (A : Option Addr) (l c : Nat) (b : Bool) (hb : s.m.ends ≤ 900000000) (hl : s.names.length ≤ 1000000000) (hk : s.kept ≤ 1000000000) (hB : ¬ n.toList = tBody) (hH : hasN LH n = false) (hN : bodyN n s.names = []) (hK : hasN LK n = false) :
    Calls Tryz.prog 38 #[.pointer (some ⟨p, 0, none⟩), tok k n t A l c b] w fun e w' => e = .returned (.tuple #[]) ∧ Hid (PDoes w w' p F (s.start n)) := by
  have HP := Lib.hid (pt_new h k n t A l c b)
  obtain ⟨f, a, vc, c0, c1, c2, f1, f2, cT⟩ := HP.out.cells
  have HL := Lib.hid hl
  have HKK := Lib.hid hk
  have HB := Lib.hid hb
  have hbn : bodyN n s.names = s.names := by unfold bodyN; rw [if_neg hB]
  have q1 : (n.toList == [98, 111, 100, 121]) = false := beq_eq_false_iff_ne.2 hB
  have HS : Hid (s.start n = { names := s.names, kept := s.kept, m := tagM n s.m }) := Lib.hid (by unfold Pg.start; rw [if_neg (by rw [hH]; simp), if_pos hN, if_neg (by rw [hK]; simp), ← hbn, hN])
  rw [hbn] at hN
  have q2 : decide ((0 : Int) < (s.names.length : Int)) = false := by rw [hN]; rfl
  have q3 : decide (0 < s.names.length) = false := by rw [hN]; rfl
  clear h hb hl hk hB hbn hN
  unfold tok
  unfold tcells at c0 c1 c2 f1 f2 cT
  go_enter Tryz.func38, Tryz.ntmps38
  go_wp2_with (first
    | (go_at_call 96; refine (pt_hides HP).mono ?_; rw [hH]; rintro e w3 ⟨rfl, h3⟩; obtain ⟨f4, a4, vc4, e0, e1, e2, e3, e4, eT⟩ := h3.out.cells)
    | (go_at_call 97; refine (pt_lines h3 HB).mono ?_; rintro e w4 ⟨rfl, h4⟩; obtain ⟨f5, a5, vc5, m0, m1, m2, m3, m4, mT⟩ := h4.out.cells)
    | (go_at_call 98; refine (pt_keeps h4).mono ?_; rw [hK]; rintro e w5 ⟨rfl, h5⟩; obtain ⟨f6, a6, vc6, n0, n1, n2, n3, n4, nT⟩ := h5.out.cells))
  go_end0
  exact ⟨rfl, by rw [HS.out]; exact Lib.hid (pt_out h5.out)⟩
set_option maxHeartbeats 4000000 in
set_option maxRecDepth 100000 in
theorem start_keeps (h : Pge w p F s) (k : Int) (n t : ByteArray) (A : Option Addr) (l c : Nat) (b : Bool) (hb : s.m.ends ≤ 900000000) (hl : s.names.length ≤ 1000000000) (hk : s.kept ≤ 1000000000) (hB : ¬ n.toList = tBody) (hH : hasN LH n = false) (hN : bodyN n s.names = []) (hK : hasN LK n = true) :
    Calls Tryz.prog 38 #[.pointer (some ⟨p, 0, none⟩), tok k n t A l c b] w fun e w' => e = .returned (.tuple #[]) ∧ Hid (PDoes w w' p F (s.start n)) := by
  have HP := Lib.hid (pt_new h k n t A l c b)
  obtain ⟨f, a, vc, c0, c1, c2, f1, f2, cT⟩ := HP.out.cells
  have HL := Lib.hid hl
  have HKK := Lib.hid hk
  have HB := Lib.hid hb
  have hbn : bodyN n s.names = s.names := by unfold bodyN; rw [if_neg hB]
  have q1 : (n.toList == [98, 111, 100, 121]) = false := beq_eq_false_iff_ne.2 hB
  have HS : Hid (s.start n = { names := s.names, kept := s.kept + 1, m := tagM n s.m }) := Lib.hid (by unfold Pg.start; rw [if_neg (by rw [hH]; simp), if_pos hN, if_pos hK, ← hbn, hN])
  rw [hbn] at hN
  have q2 : decide ((0 : Int) < (s.names.length : Int)) = false := by rw [hN]; rfl
  have q3 : decide (0 < s.names.length) = false := by rw [hN]; rfl
  clear h hb hl hk hB hbn hN
  unfold tok
  unfold tcells at c0 c1 c2 f1 f2 cT
  go_enter Tryz.func38, Tryz.ntmps38
  go_wp2_with (first
    | (go_at_call 96; refine (pt_hides HP).mono ?_; rw [hH]; rintro e w3 ⟨rfl, h3⟩; obtain ⟨f4, a4, vc4, e0, e1, e2, e3, e4, eT⟩ := h3.out.cells)
    | (go_at_call 97; refine (pt_lines h3 HB).mono ?_; rintro e w4 ⟨rfl, h4⟩; obtain ⟨f5, a5, vc5, m0, m1, m2, m3, m4, mT⟩ := h4.out.cells)
    | (go_at_call 98; refine (pt_keeps h4).mono ?_; rw [hK]; rintro e w5 ⟨rfl, h5⟩; obtain ⟨f6, a6, vc6, n0, n1, n2, n3, n4, nT⟩ := h5.out.cells))
  go_end0
  have hz := pt_kept h5.out (s.kept + 1)
  have hw : wrap64 ((s.kept : Int) + 1) = ((s.kept + 1 : Nat) : Int) := by
    have := HKK.out
    unfold wrap64
    omega
  exact ⟨rfl, by rw [HS.out, hw]; exact Lib.hid (pt_out hz)⟩
set_option maxHeartbeats 4000000 in
set_option maxRecDepth 100000 in
theorem start_hides (h : Pge w p F s) (k : Int) (n t : ByteArray) (A : Option Addr) (l c : Nat) (b : Bool) (hb : s.m.ends ≤ 900000000) (hl : s.names.length ≤ 1000000000) (hk : s.kept ≤ 1000000000) (hB : ¬ n.toList = tBody) (hH : hasN LH n = true) :
    Calls Tryz.prog 38 #[.pointer (some ⟨p, 0, none⟩), tok k n t A l c b] w fun e w' => e = .returned (.tuple #[]) ∧ Hid (PDoes w w' p F (s.start n)) := by
  have HP := Lib.hid (pt_new h k n t A l c b)
  obtain ⟨f, a, vc, c0, c1, c2, f1, f2, cT⟩ := HP.out.cells
  have HL := Lib.hid hl
  have HKK := Lib.hid hk
  have HB := Lib.hid hb
  have hbn : bodyN n s.names = s.names := by unfold bodyN; rw [if_neg hB]
  have q1 : (n.toList == [98, 111, 100, 121]) = false := beq_eq_false_iff_ne.2 hB
  have HS : Hid (s.start n = { s with names := s.names ++ [n] }) := Lib.hid (by unfold Pg.start; rw [if_pos hH, hbn])
  clear h hb hl hk hB hbn
  unfold tok
  unfold tcells at c0 c1 c2 f1 f2 cT
  obtain ⟨i0, hi, hz0, hz1, hz2⟩ := info_parts infoStr
  go_enter Tryz.func38, Tryz.ntmps38
  go_wp2_with (first
    | (go_at_call 96; refine (pt_hides HP).mono ?_; rw [hH]; rintro e w3 ⟨rfl, h3⟩; obtain ⟨f4, a4, vc4, e0, e1, e2, e3, e4, eT⟩ := h3.out.cells))
  have HR := Lib.hid (pt_row h3 e1)
  have ca1 := HR.out.2.1
  have ca2 := HR.out.2.2
  go_region_law ((refine step_append_lies _ (by rfl) _ _ _ (by rfl) 0 9 i0 (.string ⟨#[]⟩) 1 16 Tryz.underlying65 hi hz0 hz1 hz2 rfl (by decide) (.slice a4 s.names.length vc4) s.names.length _ rfl (HR.out.1 _) _ 1 1 [.string n] rfl rfl (World.news_of_block (w := (w3.alloc _).drew) (heap_alloc_new w3 _)) (one_str n) (by decide) (by have := HL.out; have := noHead_len s.names; unfold maxLen; omega) (by have := HL.out; have := noHead_len s.names; omega) (Nat.zero_le _) _ rfl ?_; intro g cap w4 hown hgrow hat hlt; obtain ⟨x1, x2, h4⟩ := pt_appended h3 e1 hown hgrow (hat.imp id (fun e => by simpa using e))))
  all_goals (
    go_wp2_with fail
    (try simp only [Exit.inBlock, Exit.then])
    refine bodyPost_ret (results_none rfl _ _ _) rfl ?_
    exact ⟨rfl, by rw [HS.out]; exact Lib.hid (pt_out h4.out)⟩)
set_option maxHeartbeats 4000000 in
set_option maxRecDepth 100000 in
theorem start_full_b (h : Pge w p F s) (k : Int) (n t : ByteArray) (A : Option Addr) (l c : Nat) (b : Bool) (hb : s.m.ends ≤ 900000000) (hl : s.names.length ≤ 1000000000) (hk : s.kept ≤ 1000000000) (hB : n.toList = tBody) (hH : hasN LH n = false) (hN : ¬ bodyN n s.names = []) :
    Calls Tryz.prog 38 #[.pointer (some ⟨p, 0, none⟩), tok k n t A l c b] w fun e w' => e = .returned (.tuple #[]) ∧ Hid (PDoes w w' p F (s.start n)) := by
  have HP := Lib.hid (pt_new h k n t A l c b)
  obtain ⟨f, a, vc, c0, c1, c2, f1, f2, cT⟩ := HP.out.cells
  have HL := Lib.hid hl
  have HKK := Lib.hid hk
  have HB := Lib.hid hb
  have hbn : bodyN n s.names = noHead s.names := by unfold bodyN; rw [if_pos hB]
  have q1 : (n.toList == [98, 111, 100, 121]) = true := beq_iff_eq.2 hB
  have HS : Hid (s.start n = { s with names := (noHead s.names) }) := Lib.hid (by unfold Pg.start; rw [if_neg (by rw [hH]; simp), if_neg hN, hbn])
  rw [hbn] at hN
  have hpos : (0 : Int) < ((noHead s.names).length : Int) := by have := List.length_pos_iff.2 hN; omega
  have q2 : decide ((0 : Int) < ((noHead s.names).length : Int)) = true := decide_eq_true hpos
  clear h hb hl hk hB hbn hN
  unfold tok
  unfold tcells at c0 c1 c2 f1 f2 cT
  go_enter Tryz.func38, Tryz.ntmps38
  go_wp2_with (first
    | (go_at_call 94; refine (pt_delete HP HL c1).mono ?_; rintro e w2 ⟨a2, v2, rfl, ⟨v0, d1⟩, d2, h2⟩; obtain ⟨f3, a3, vc3, g0, g1, g2, g3, g4, gT⟩ := h2.out.cells)
    | (go_at_call 96; refine (pt_hides h2).mono ?_; rw [hH]; rintro e w3 ⟨rfl, h3⟩; obtain ⟨f4, a4, vc4, e0, e1, e2, e3, e4, eT⟩ := h3.out.cells))
  (try simp only [Exit.inBlock, Exit.then])
  refine bodyPost_ret (results_none rfl _ _ _) rfl ?_
  exact ⟨rfl, by rw [HS.out]; exact Lib.hid (pt_out h3.out)⟩
set_option maxHeartbeats 4000000 in
set_option maxRecDepth 100000 in
theorem start_plain_b (h : Pge w p F s) (k : Int) (n t : ByteArray) (A : Option Addr) (l c : Nat) (b : Bool) (hb : s.m.ends ≤ 900000000) (hl : s.names.length ≤ 1000000000) (hk : s.kept ≤ 1000000000) (hB : n.toList = tBody) (hH : hasN LH n = false) (hN : bodyN n s.names = []) (hK : hasN LK n = false) :
    Calls Tryz.prog 38 #[.pointer (some ⟨p, 0, none⟩), tok k n t A l c b] w fun e w' => e = .returned (.tuple #[]) ∧ Hid (PDoes w w' p F (s.start n)) := by
  have HP := Lib.hid (pt_new h k n t A l c b)
  obtain ⟨f, a, vc, c0, c1, c2, f1, f2, cT⟩ := HP.out.cells
  have HL := Lib.hid hl
  have HKK := Lib.hid hk
  have HB := Lib.hid hb
  have hbn : bodyN n s.names = noHead s.names := by unfold bodyN; rw [if_pos hB]
  have q1 : (n.toList == [98, 111, 100, 121]) = true := beq_iff_eq.2 hB
  have HS : Hid (s.start n = { names := (noHead s.names), kept := s.kept, m := tagM n s.m }) := Lib.hid (by unfold Pg.start; rw [if_neg (by rw [hH]; simp), if_pos hN, if_neg (by rw [hK]; simp), ← hbn, hN])
  rw [hbn] at hN
  have q2 : decide ((0 : Int) < ((noHead s.names).length : Int)) = false := by rw [hN]; rfl
  have q3 : decide (0 < (noHead s.names).length) = false := by rw [hN]; rfl
  clear h hb hl hk hB hbn hN
  unfold tok
  unfold tcells at c0 c1 c2 f1 f2 cT
  go_enter Tryz.func38, Tryz.ntmps38
  go_wp2_with (first
    | (go_at_call 94; refine (pt_delete HP HL c1).mono ?_; rintro e w2 ⟨a2, v2, rfl, ⟨v0, d1⟩, d2, h2⟩; obtain ⟨f3, a3, vc3, g0, g1, g2, g3, g4, gT⟩ := h2.out.cells)
    | (go_at_call 96; refine (pt_hides h2).mono ?_; rw [hH]; rintro e w3 ⟨rfl, h3⟩; obtain ⟨f4, a4, vc4, e0, e1, e2, e3, e4, eT⟩ := h3.out.cells)
    | (go_at_call 97; refine (pt_lines h3 HB).mono ?_; rintro e w4 ⟨rfl, h4⟩; obtain ⟨f5, a5, vc5, m0, m1, m2, m3, m4, mT⟩ := h4.out.cells)
    | (go_at_call 98; refine (pt_keeps h4).mono ?_; rw [hK]; rintro e w5 ⟨rfl, h5⟩; obtain ⟨f6, a6, vc6, n0, n1, n2, n3, n4, nT⟩ := h5.out.cells))
  go_end0
  exact ⟨rfl, by rw [HS.out]; exact Lib.hid (pt_out h5.out)⟩
set_option maxHeartbeats 4000000 in
set_option maxRecDepth 100000 in
theorem start_keeps_b (h : Pge w p F s) (k : Int) (n t : ByteArray) (A : Option Addr) (l c : Nat) (b : Bool) (hb : s.m.ends ≤ 900000000) (hl : s.names.length ≤ 1000000000) (hk : s.kept ≤ 1000000000) (hB : n.toList = tBody) (hH : hasN LH n = false) (hN : bodyN n s.names = []) (hK : hasN LK n = true) :
    Calls Tryz.prog 38 #[.pointer (some ⟨p, 0, none⟩), tok k n t A l c b] w fun e w' => e = .returned (.tuple #[]) ∧ Hid (PDoes w w' p F (s.start n)) := by
  have HP := Lib.hid (pt_new h k n t A l c b)
  obtain ⟨f, a, vc, c0, c1, c2, f1, f2, cT⟩ := HP.out.cells
  have HL := Lib.hid hl
  have HKK := Lib.hid hk
  have HB := Lib.hid hb
  have hbn : bodyN n s.names = noHead s.names := by unfold bodyN; rw [if_pos hB]
  have q1 : (n.toList == [98, 111, 100, 121]) = true := beq_iff_eq.2 hB
  have HS : Hid (s.start n = { names := (noHead s.names), kept := s.kept + 1, m := tagM n s.m }) := Lib.hid (by unfold Pg.start; rw [if_neg (by rw [hH]; simp), if_pos hN, if_pos hK, ← hbn, hN])
  rw [hbn] at hN
  have q2 : decide ((0 : Int) < ((noHead s.names).length : Int)) = false := by rw [hN]; rfl
  have q3 : decide (0 < (noHead s.names).length) = false := by rw [hN]; rfl
  clear h hb hl hk hB hbn hN
  unfold tok
  unfold tcells at c0 c1 c2 f1 f2 cT
  go_enter Tryz.func38, Tryz.ntmps38
  go_wp2_with (first
    | (go_at_call 94; refine (pt_delete HP HL c1).mono ?_; rintro e w2 ⟨a2, v2, rfl, ⟨v0, d1⟩, d2, h2⟩; obtain ⟨f3, a3, vc3, g0, g1, g2, g3, g4, gT⟩ := h2.out.cells)
    | (go_at_call 96; refine (pt_hides h2).mono ?_; rw [hH]; rintro e w3 ⟨rfl, h3⟩; obtain ⟨f4, a4, vc4, e0, e1, e2, e3, e4, eT⟩ := h3.out.cells)
    | (go_at_call 97; refine (pt_lines h3 HB).mono ?_; rintro e w4 ⟨rfl, h4⟩; obtain ⟨f5, a5, vc5, m0, m1, m2, m3, m4, mT⟩ := h4.out.cells)
    | (go_at_call 98; refine (pt_keeps h4).mono ?_; rw [hK]; rintro e w5 ⟨rfl, h5⟩; obtain ⟨f6, a6, vc6, n0, n1, n2, n3, n4, nT⟩ := h5.out.cells))
  go_end0
  have hz := pt_kept h5.out (s.kept + 1)
  have hw : wrap64 ((s.kept : Int) + 1) = ((s.kept + 1 : Nat) : Int) := by
    have := HKK.out
    unfold wrap64
    omega
  exact ⟨rfl, by rw [HS.out, hw]; exact Lib.hid (pt_out hz)⟩
set_option maxHeartbeats 4000000 in
set_option maxRecDepth 100000 in
theorem start_hides_b (h : Pge w p F s) (k : Int) (n t : ByteArray) (A : Option Addr) (l c : Nat) (b : Bool) (hb : s.m.ends ≤ 900000000) (hl : s.names.length ≤ 1000000000) (hk : s.kept ≤ 1000000000) (hB : n.toList = tBody) (hH : hasN LH n = true) :
    Calls Tryz.prog 38 #[.pointer (some ⟨p, 0, none⟩), tok k n t A l c b] w fun e w' => e = .returned (.tuple #[]) ∧ Hid (PDoes w w' p F (s.start n)) := by
  have HP := Lib.hid (pt_new h k n t A l c b)
  obtain ⟨f, a, vc, c0, c1, c2, f1, f2, cT⟩ := HP.out.cells
  have HL := Lib.hid hl
  have HKK := Lib.hid hk
  have HB := Lib.hid hb
  have hbn : bodyN n s.names = noHead s.names := by unfold bodyN; rw [if_pos hB]
  have q1 : (n.toList == [98, 111, 100, 121]) = true := beq_iff_eq.2 hB
  have HS : Hid (s.start n = { s with names := (noHead s.names) ++ [n] }) := Lib.hid (by unfold Pg.start; rw [if_pos hH, hbn])
  clear h hb hl hk hB hbn
  unfold tok
  unfold tcells at c0 c1 c2 f1 f2 cT
  obtain ⟨i0, hi, hz0, hz1, hz2⟩ := info_parts infoStr
  go_enter Tryz.func38, Tryz.ntmps38
  go_wp2_with (first
    | (go_at_call 94; refine (pt_delete HP HL c1).mono ?_; rintro e w2 ⟨a2, v2, rfl, ⟨v0, d1⟩, d2, h2⟩; obtain ⟨f3, a3, vc3, g0, g1, g2, g3, g4, gT⟩ := h2.out.cells)
    | (go_at_call 96; refine (pt_hides h2).mono ?_; rw [hH]; rintro e w3 ⟨rfl, h3⟩; obtain ⟨f4, a4, vc4, e0, e1, e2, e3, e4, eT⟩ := h3.out.cells))
  have HR := Lib.hid (pt_row h3 e1)
  have ca1 := HR.out.2.1
  have ca2 := HR.out.2.2
  go_region_law ((refine step_append_lies _ (by rfl) _ _ _ (by rfl) 0 9 i0 (.string ⟨#[]⟩) 1 16 Tryz.underlying65 hi hz0 hz1 hz2 rfl (by decide) (.slice a4 (noHead s.names).length vc4) (noHead s.names).length _ rfl (HR.out.1 _) _ 1 1 [.string n] rfl rfl (World.news_of_block (w := (w3.alloc _).drew) (heap_alloc_new w3 _)) (one_str n) (by decide) (by have := HL.out; have := noHead_len s.names; unfold maxLen; omega) (by have := HL.out; have := noHead_len s.names; omega) (Nat.zero_le _) _ rfl ?_; intro g cap w4 hown hgrow hat hlt; obtain ⟨x1, x2, h4⟩ := pt_appended h3 e1 hown hgrow (hat.imp id (fun e => by simpa using e))))
  all_goals (
    go_wp2_with fail
    (try simp only [Exit.inBlock, Exit.then])
    refine bodyPost_ret (results_none rfl _ _ _) rfl ?_
    exact ⟨rfl, by rw [HS.out]; exact Lib.hid (pt_out h4.out)⟩)
theorem start_at (h : Pge w p F s) (k : Int) (n t : ByteArray) (A : Option Addr) (l c : Nat) (b : Bool) (hb : s.m.ends ≤ 900000000) (hl : s.names.length ≤ 1000000000) (hk : s.kept ≤ 1000000000) :
    Calls Tryz.prog 38 #[.pointer (some ⟨p, 0, none⟩), tok k n t A l c b] w fun e w' => e = .returned (.tuple #[]) ∧ Hid (PDoes w w' p F (s.start n)) := by
  cases hH : hasN LH n with
  | true =>
    by_cases hB : n.toList = tBody
    · exact start_hides_b h k n t A l c b hb hl hk hB hH
    · exact start_hides h k n t A l c b hb hl hk hB hH
  | false =>
    by_cases hN : bodyN n s.names = []
    · cases hK : hasN LK n with
      | true =>
        by_cases hB : n.toList = tBody
        · exact start_keeps_b h k n t A l c b hb hl hk hB hH hN hK
        · exact start_keeps h k n t A l c b hb hl hk hB hH hN hK
      | false =>
        by_cases hB : n.toList = tBody
        · exact start_plain_b h k n t A l c b hb hl hk hB hH hN hK
        · exact start_plain h k n t A l c b hb hl hk hB hH hN hK
    · by_cases hB : n.toList = tBody
      · exact start_full_b h k n t A l c b hb hl hk hB hH hN
      · exact start_full h k n t A l c b hb hl hk hB hH hN
end
end Go.Proofs.YteccaekalcjihaaGreatDoor.Rend
