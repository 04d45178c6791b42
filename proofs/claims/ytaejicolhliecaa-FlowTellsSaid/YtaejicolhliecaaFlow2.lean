/- A flow's methods that write: keep, what the builder at its head is told, word. -/
import Derived.Test.YtaejicolhliecaaFlow
import Derived.Deep.RegionWith
set_option linter.unusedVariables false
namespace Go.Proofs.Ytaejicolhliecaa.Flow
open Go.RowKit Go.Lib Go.Proofs.Ytaejicolhliecaa.Buf

theorem Does.trans {w w1 w2 : World} {b : Nat} {F F1 : Nat → Prop} {m2 : M} (hk : Kp F w w1) (hF : ∀ k, F1 k → F k ∨ w.heap.size ≤ k) (h : Does w1 w2 b F1 m2) : Does w w2 b F m2 := by
  obtain ⟨F2, h2, hk2, hF2⟩ := h
  refine ⟨F2, h2, hk.trans hk2 (fun k hlt hf => ?_), fun k hf => ?_⟩
  · rcases hF k hf with h | h
    · exact h
    · omega
  · rcases hF2 k hf with h | h
    · exact hF k h
    · exact Or.inr (Nat.le_trans hk.size h)

section
variable {w : World} {b : Nat} {F : Nat → Prop} {m : M}

/-- The blanks written on, elsewhere or in their place. -/
theorem blanks_set {a v l : Value} (h : IsF w b F a v l m) {w2 : World} {l' : Value} {bl : List UInt8} (hk : Kp (fun k => l.ownBlock = some k) w w2) (ho : w2.ownsRowF 0 5 1 l' bl.length (byteCells bl)) (hat : ∀ k, l'.ownBlock = some k → l.ownBlock = some k ∨ w.heap.size ≤ k) :
    Does w (w2.setCell ⟨b, 3, none⟩ l') b F { m with blanks := bl } := by
  have hlt := Buf.lt_of_heap h.heap
  have h0 : w2.heap[b]? = some (.cells #[a, v, .int .i64 m.ends, l] 62 (0, 0)) := (hk.block b hlt h.nl).trans h.heap
  have h1 := heap_setCell_self h0 (j := 3) l'
  have hk0 : Kp (fun k => k = b) w2 (w2.setCell ⟨b, 3, none⟩ l') := (Kp.refl (fun k => k = b) w2).setCell (p := ⟨b, 3, none⟩) rfl _
  have hkF : Kp F w (w2.setCell ⟨b, 3, none⟩ l') := (hk.mono (fun k _ e => h.fl k e)).setCell (p := ⟨b, 3, none⟩) h.fb _
  have hnb : l'.ownBlock ≠ some b := fun e => by
    rcases hat b e with h' | h'
    · exact h.nl h'
    · omega
  have ho2 : (w2.setCell ⟨b, 3, none⟩ l').ownsRowF 0 5 1 l' bl.length (byteCells bl) := ownsF_kp ho hk0 (fun k e hb => hnb (hb ▸ e))
  have ht2 : (w2.setCell ⟨b, 3, none⟩ l').ownsRowF 0 5 1 v m.told.length (byteCells m.told) := ownsF_kp (ownsF_kp h.told hk (fun k e => h.apart k e)) hk0 (fun k e hb => h.nv (hb ▸ e))
  refine ⟨fun k => F k ∨ l'.ownBlock = some k, ⟨a, v, l', h1, h.addr, ht2, ho2, h.nv, hnb, ?_, Or.inl h.fb, fun k e => Or.inl (h.fv k e), fun k e => Or.inr e, ?_⟩, hkF, ?_⟩
  · intro k e e2
    rcases hat k e2 with h' | h'
    · exact h.apart k e h'
    · have := h.fin k (h.fv k e)
      omega
  · rintro k (e | e)
    · exact Nat.lt_of_lt_of_le (h.fin k e) hkF.size
    · exact (ho2.lt k e).2
  · rintro k (e | e)
    · exact Or.inl e
    · exact (hat k e).imp (h.fl k) id

/-- The builder at its head written on. -/
theorem told_set {a v l : Value} (h : IsF w b F a v l m) {w' : World} {v' : Value} {tl : List UInt8} (hb' : w'.heap[b]? = some (.cells ((#[a, v, .int .i64 m.ends, l].setIfInBounds 0 (.pointer (some ⟨b, 0, none⟩))).setIfInBounds 1 v') 62 (0, 0)))
    (ho : w'.ownsRowF 0 5 1 v' tl.length (byteCells tl)) (hat : ∀ k, v'.ownBlock = some k → v.ownBlock = some k ∨ w.heap.size ≤ k) (hnb : v'.ownBlock ≠ some b) (hk : Kp (fun k => k = b ∨ v.ownBlock = some k) w w') : Does w w' b F { m with told := tl } := by
  have hlt := Buf.lt_of_heap h.heap
  have hkF : Kp F w w' := hk.mono (fun k _ e => e.elim (fun e => e ▸ h.fb) (h.fv k))
  refine ⟨fun k => F k ∨ v'.ownBlock = some k, ⟨.pointer (some ⟨b, 0, none⟩), v', l, hb', Or.inr rfl, ho, ownsF_kp h.blanks hk ?_, hnb, h.nl, ?_, Or.inl h.fb, fun k e => Or.inr e, fun k e => Or.inl (h.fl k e), ?_⟩, hkF, ?_⟩
  · rintro k e (e2 | e2)
    · exact h.nl (e2 ▸ e)
    · exact h.apart k e2 e
  · intro k e e2
    rcases hat k e with h' | h'
    · exact h.apart k h' e2
    · have := h.fin k (h.fl k e2)
      omega
  · rintro k (e | e)
    · exact Nat.lt_of_lt_of_le (h.fin k e) hkF.size
    · exact (ho.lt k e).2
  · rintro k (e | e)
    · exact Or.inl e
    · exact (hat k e).imp (h.fv k) id

theorem cells_length (l : List UInt8) : (byteCells l).length = l.length := by simp [byteCells]
theorem cells_app (l r : List UInt8) : byteCells (l ++ r) = byteCells l ++ byteCells r := by simp [byteCells]
theorem str_cells (s : ByteArray) : strCells s = byteCells s.data.toList := by simp [strCells, byteCells]

theorem str_fl (h : Fl w b F m) (s : ByteArray) (hl : m.told.length + s.size ≤ 140737488355328) : Calls Try.prog 49 #[.pointer (some ⟨b, 0, none⟩), .string s] w fun e w' => e = .returned (.tuple #[.int .i64 s.size, .nilIface]) ∧ Does w w' b F { m with told := m.told ++ s.data.toList } := by
  obtain ⟨a, v, l, h⟩ := h
  refine (writeString_at (bs := byteCells m.told) h.at (by rw [cells_length]; exact h.told) h.nv (by decide) s (by rw [cells_length]; exact hl)).mono ?_
  rintro e w' ⟨rfl, v', h1, h2, h3, h4, h5⟩
  refine ⟨rfl, told_set h h1 ?_ h3 h4 h5⟩
  rw [cells_app, ← str_cells, List.length_append]
  rw [cells_length] at h2
  have : s.data.toList.length = s.size := by simp
  rw [this]
  exact h2

theorem byte_fl (h : Fl w b F m) (c : UInt8) (hl : m.told.length + 1 ≤ 140737488355328) : Calls Try.prog 52 #[.pointer (some ⟨b, 0, none⟩), .int .u8 c.toNat] w fun e w' => e = .returned .nilIface ∧ Does w w' b F { m with told := m.told ++ [c] } := by
  obtain ⟨a, v, l, h⟩ := h
  refine (writeByte_at (bs := byteCells m.told) h.at (by rw [cells_length]; exact h.told) h.nv (by decide) c.toNat (by rw [cells_length]; exact hl)).mono ?_
  rintro e w' ⟨rfl, v', h1, h2, h3, h4, h5⟩
  refine ⟨rfl, told_set h h1 ?_ h3 h4 h5⟩
  rw [cells_app, List.length_append]
  rw [cells_length] at h2
  exact h2

theorem len_fl (h : Fl w b F m) : Calls Try.prog 48 #[.pointer (some ⟨b, 0, none⟩)] w fun e w' => e = .returned (.int .i64 m.told.length) ∧ w' = w := by
  obtain ⟨a, v, l, h⟩ := h
  have := len_at (bs := byteCells m.told) h.heap rfl (by rw [cells_length]; exact h.told)
  rw [cells_length] at this
  exact this

/-- The blanks told. -/
theorem blanks_fl {a v l : Value} (h : IsF w b F a v l m) (hl : m.told.length + m.blanks.length ≤ 140737488355328) : Calls Try.prog 51 #[.pointer (some ⟨b, 0, none⟩), l] w fun e w' => e = .returned (.tuple #[.int .i64 m.blanks.length, .nilIface]) ∧ Does w w' b F { m with told := m.told ++ m.blanks } := by
  have h' := h
  rcases h.blanks.2 with ⟨rfl, hn⟩ | ⟨g, cap, cur, fz, rfl, hbg, hg, _, _, _, _, _⟩
  · refine (write_none_at (bs := byteCells m.told) h.at (by rw [cells_length]; exact h.told) h.nv (by decide)).mono ?_
    rintro e w' ⟨rfl, v', h1, h2, h3, h4, h5⟩
    have hb0 : m.blanks = [] := List.length_eq_zero_iff.1 hn
    refine ⟨by rw [hn]; rfl, told_set h h1 ?_ h3 h4 h5⟩
    rw [hb0, List.append_nil]
    rw [cells_length] at h2
    exact h2
  · refine (write_at (bs := byteCells m.told) h.at (by rw [cells_length]; exact h.told) h.nv (by decide) (xs := byteCells m.blanks) (h.blanks.cells (g := g) rfl) (cells_length _) ?_ (Buf.lt_of_heap hg) (fun e => h.nl (by rw [e]; rfl)) (by rw [cells_length]; exact hl)).mono ?_
    · intro u hu
      simp only [byteCells, List.mem_map] at hu
      obtain ⟨x, _, rfl⟩ := hu
      rfl
    · rintro e w' ⟨rfl, v', h1, h2, h3, h4, h5⟩
      refine ⟨rfl, told_set h h1 ?_ h3 h4 h5⟩
      rw [cells_app, List.length_append]
      rw [cells_length] at h2
      exact h2

set_option maxHeartbeats 2000000 in
set_option maxRecDepth 100000 in
theorem keep_other (h : Fl w b F m) (c : UInt8) (h10 : c ≠ 10) (h13 : c ≠ 13) (hl : m.blanks.length + 1 ≤ 140737488355328) : Calls Try.prog 35 #[.pointer (some ⟨b, 0, none⟩), .int .u8 c.toNat] w fun e w' => e = .returned (.tuple #[]) ∧ Does w w' b F (m.keep c) := by
  obtain ⟨i0, hi, hz0, hz1, hz2⟩ := info_parts infoByte
  have hm : m.keep c = { m with blanks := m.blanks ++ [c] } := by
    unfold M.keep
    rw [if_neg (by rintro (e | e); exact h10 e; exact h13 e)]
  have d1 : ((c.toNat : Int) == 10) = false := by
    rw [beq_eq_false_iff_ne]
    intro e
    exact h10 (UInt8.toNat_inj.1 (by simpa using (by omega : c.toNat = 10)))
  have d2 : ((c.toNat : Int) == 13) = false := by
    rw [beq_eq_false_iff_ne]
    intro e
    exact h13 (UInt8.toNat_inj.1 (by simpa using (by omega : c.toNat = 13)))
  obtain ⟨a, v, l, h⟩ := h
  obtain ⟨c2, c3, hf⟩ := cells_of h
  have hlt := Buf.lt_of_heap h.heap
  have HI := Lib.hid h
  have HO1 := Lib.hid (h.blanks.alloc (.cells #[.int .u8 c.toNat] 5))
  have HN := Lib.hid (news_one (heap_alloc_new w (.cells #[.int .u8 c.toNat] 5)))
  have hone := one_cell c.toNat
  have HM := Lib.hid hm
  clear h hf c2 h10 h13 hm
  go_enter Try.func35, Try.ntmps35
  go_wp2_with (at_builtin; refine Stop.out (?_ : Stop _))
  refine Stop.mk ?_
  refine wp_append_cells _ rfl _ _ 36 rfl 5 i0 Try.underlying36 hi hz0 hz1 hz2 _ _ _ ?hv HO1.out _ 1 1 [.int .u8 c.toNat] ?hx rfl HN.out hone hl ?_
  case hv => rfl
  case hx => rfl
  intro l' w2 ho' hgrow hat
  have hk0 : Kp (fun k => l.ownBlock = some k) w w2 := ((Kp.refl _ w).alloc _).grown hgrow (fun k hk => Or.inl hk)
  have hat' : ∀ k, l'.ownBlock = some k → l.ownBlock = some k ∨ w.heap.size ≤ k := fun k hk => (hat k hk).imp id (fun h => by simp at h; omega)
  have hd := blanks_set HI.out hk0 (bl := m.blanks ++ [c]) (by rw [cells_app, List.length_append]; exact ho') hat'
  have h2 : w2.heap[b]? = some (.cells #[a, v, .int .i64 m.ends, l] 62 (0, 0)) := (hk0.block b hlt HI.out.nl).trans HI.out.heap
  have c3' : w2.cell? ⟨b, 3, none⟩ = some l := by rw [Lib.cell_of_heap h2]; rfl
  have f3' : w2.frozen? ⟨b, 3, none⟩ = false := Lib.frozen_of_heap h2 3
  have HD := Lib.hid hd
  obtain ⟨ao, cap, rfl⟩ := own_slice w2 ho'
  clear hd h2 hk0 hat hat' ho' c3
  go_wp2
  go_end0
  exact ⟨rfl, by rw [HM.out]; exact HD.out⟩

set_option maxHeartbeats 2000000 in
set_option maxRecDepth 100000 in
theorem keep_line (h : Fl w b F m) (c : UInt8) (hc : c = 10 ∨ c = 13) (hb : m.ends ≤ 1000000000) : Calls Try.prog 35 #[.pointer (some ⟨b, 0, none⟩), .int .u8 c.toNat] w fun e w' => e = .returned (.tuple #[]) ∧ Does w w' b F (m.keep c) := by
  have hm : m.keep c = m.line := by
    unfold M.keep
    rw [if_pos hc]
  rw [hm]
  have H := Lib.hid (line_at h hb)
  clear hm h
  rcases hc with rfl | rfl
  · have d1 : (((10 : UInt8).toNat : Int) == 10) = true := by decide
    go_enter Try.func35, Try.ntmps35
    go_wp2_with (go_at_call 23; refine H.out.mono ?_)
    rintro e w' ⟨rfl, hd⟩
    go_wp2
    (try simp only [Exit.inBlock, Exit.then])
    refine bodyPost_ret (results_none rfl _ _ _) rfl ?_
    exact ⟨rfl, hd⟩
  · have d1 : (((13 : UInt8).toNat : Int) == 10) = false := by decide
    have d2 : (((13 : UInt8).toNat : Int) == 13) = true := by decide
    go_enter Try.func35, Try.ntmps35
    go_wp2_with (go_at_call 23; refine H.out.mono ?_)
    rintro e w' ⟨rfl, hd⟩
    go_wp2
    (try simp only [Exit.inBlock, Exit.then])
    refine bodyPost_ret (results_none rfl _ _ _) rfl ?_
    exact ⟨rfl, hd⟩

theorem keep_at (h : Fl w b F m) (c : UInt8) (hb : m.ends ≤ 1000000000) (hl : m.blanks.length ≤ 1000000000) : Calls Try.prog 35 #[.pointer (some ⟨b, 0, none⟩), .int .u8 c.toNat] w fun e w' => e = .returned (.tuple #[]) ∧ Does w w' b F (m.keep c) := by
  by_cases h10 : c = 10
  · exact keep_line h c (Or.inl h10) hb
  by_cases h13 : c = 13
  · exact keep_line h c (Or.inr h13) hb
  exact keep_other h c h10 h13 (by omega)

theorem index_blank (c : UInt8) : decide (0 ≤ Lib.indexByte [9, 10, 12, 13, 32] c) = isBlank c := by
  rcases c with ⟨⟨n⟩⟩
  revert n
  decide +kernel

set_option maxHeartbeats 2000000 in
set_option maxRecDepth 100000 in
theorem blank_at (c : UInt8) (w : World) : Calls Try.prog 36 #[.int .u8 c.toNat] w fun e w' => e = .returned (.bool (isBlank c)) ∧ w' = w := by
  have H := Try.strings_IndexByte ⟨#[9, 10, 12, 13, 32]⟩ c.toNat w
  have e1 : ((c.toNat : Int)).toNat.toUInt8 = c := by simp
  rw [e1] at H
  have hi := index_blank c
  have HH := Lib.hid H
  clear H e1
  go_enter Try.func36, Try.ntmps36
  go_wp2_with (go_at_call 47; refine HH.out.mono ?_)
  go_ret
  exact ⟨rfl, rfl⟩

theorem fl_below (h : Fl w b F m) {w1 : World} (hb : Below w.heap.size w.drew w1) : Fl w1 b F m := h.kp (G := fun _ => False) (Kp.of_below (w := w) (w' := w1) ⟨hb.os, hb.tape, hb.output, hb.size, hb.block⟩ _) (fun _ _ h => h)
theorem kp_below (F : Nat → Prop) {w1 : World} (hb : Below w.heap.size w.drew w1) : Kp F w w1 := Kp.of_below (w := w) (w' := w1) ⟨hb.os, hb.tape, hb.output, hb.size, hb.block⟩ F

theorem rep_ten : ∀ c, Lib.repeatL [10] c = List.replicate c 10
  | 0 => rfl
  | c + 1 => by simp [Lib.repeatL, rep_ten c, List.replicate_succ]

theorem repeat_at (c : Nat) (hc : c ≤ 1000000000) (w : World) : Calls Try.prog 50 #[.string ⟨#[10]⟩, .int .i64 c] w fun e w' => e = .returned (.string ⟨(List.replicate c (10 : UInt8)).toArray⟩) ∧ Below w.heap.size w w' := by
  have h := Try.strings_Repeat ⟨#[10]⟩ c w (by omega) (by show 1 * c ≤ _; omega)
  have e : Lib.repeatL (⟨#[10]⟩ : ByteArray).data.toList c = List.replicate c 10 := rep_ten c
  rw [e] at h
  exact h

theorem repeat_d (h : Fl w b F m) (hc : m.ends ≤ 1000000000) : Calls Try.prog 50 #[.string ⟨#[10]⟩, .int .i64 m.ends] w.drew fun e w' => e = .returned (.string ⟨(List.replicate m.ends (10 : UInt8)).toArray⟩) ∧ Hid (Fl w' b F m) ∧ Hid (Kp F w w') := by
  refine (repeat_at m.ends hc w.drew).mono ?_
  rintro e w' ⟨h1, h2⟩
  exact ⟨h1, Lib.hid (fl_below h h2), Lib.hid (kp_below F h2)⟩
theorem str_d (h : Hid (Fl w b F m)) (hl : Hid (m.told.length + (⟨(List.replicate m.ends (10 : UInt8)).toArray⟩ : ByteArray).size ≤ 140737488355328)) : Calls Try.prog 49 #[.pointer (some ⟨b, 0, none⟩), .string ⟨(List.replicate m.ends (10 : UInt8)).toArray⟩] w fun e w' => e = .returned (.tuple #[.int .i64 (⟨(List.replicate m.ends (10 : UInt8)).toArray⟩ : ByteArray).size, .nilIface]) ∧ Hid (Does w w' b F { m with told := m.told ++ List.replicate m.ends 10 }) := by
  refine (str_fl h.out _ hl.out).mono ?_
  rintro e w' ⟨h1, h2⟩
  exact ⟨h1, Lib.hid h2⟩

theorem blanks_d {a v l : Value} (h : Hid (IsF w b F a v l m)) (hl : Hid (m.told.length + m.blanks.length ≤ 140737488355328)) : Calls Try.prog 51 #[.pointer (some ⟨b, 0, none⟩), l] w.drew fun e w' => e = .returned (.tuple #[.int .i64 m.blanks.length, .nilIface]) ∧ Hid (Does w w' b F { m with told := m.told ++ m.blanks }) := by
  have h' : IsF w.drew b F a v l m := ⟨h.out.heap, h.out.addr, h.out.told, h.out.blanks, h.out.nv, h.out.nl, h.out.apart, h.out.fb, h.out.fv, h.out.fl, h.out.fin⟩
  refine (blanks_fl h' hl.out).mono ?_
  rintro e w' ⟨h1, F', h2, hk, hF⟩
  exact ⟨h1, Lib.hid ⟨F', h2, ⟨hk.os, hk.tape, hk.output, hk.size, hk.block⟩, hF⟩⟩

set_option maxHeartbeats 2000000 in
set_option maxRecDepth 100000 in
theorem word_first (h : Fl w b F m) (c : UInt8) (h0 : m.told = []) : Calls Try.prog 37 #[.pointer (some ⟨b, 0, none⟩), .int .u8 c.toNat] w fun e w' => e = .returned (.tuple #[]) ∧ Does w w' b F (m.word c) := by
  have HL := Lib.hid (len_fl h)
  have HW := Lib.hid (byte_fl h c (by rw [h0]; decide))
  have hm : m.word c = { told := m.told ++ [c], blanks := [], ends := 0 } := by
    unfold M.word
    rw [if_pos h0, h0]
  have HM := Lib.hid hm
  have d1 : decide ((0 : Int) < (m.told.length : Int)) = false := by rw [h0]; rfl
  have d2 : decide (0 < m.told.length) = false := by rw [h0]; rfl
  clear hm h0
  go_enter Try.func37, Try.ntmps37
  go_wp2_with (go_at_call 48; refine HL.out.mono ?_)
  rintro e w' ⟨rfl, rfl⟩
  go_wp2_with (go_at_call 52; refine HW.out.mono ?_)
  rintro e w1 ⟨rfl, F1, ⟨a1, v1, l1, h1⟩, hk1, hF1⟩
  obtain ⟨c2, c3, hf⟩ := cells_of h1
  have f2 := hf 2
  have f3 := hf 3
  have HD := Lib.hid (Does.trans hk1 hF1 (two_set h1 0))
  clear h1 hk1 hF1 hf
  go_wp2
  go_end0
  exact ⟨rfl, by rw [HM.out]; exact HD.out⟩

set_option maxHeartbeats 4000000 in
set_option maxRecDepth 100000 in
theorem word_later (h : Fl w b F m) (c : UInt8) (h0 : m.told ≠ []) (hb : m.told.length + m.ends + m.blanks.length ≤ 1000000000) : Calls Try.prog 37 #[.pointer (some ⟨b, 0, none⟩), .int .u8 c.toNat] w fun e w' => e = .returned (.tuple #[]) ∧ Does w w' b F (m.word c) := by
  have HL := Lib.hid (len_fl h)
  have HR := Lib.hid (repeat_at m.ends (by omega) w)
  have hm : m.word c = { told := m.told ++ List.replicate m.ends 10 ++ m.blanks ++ [c], blanks := [], ends := 0 } := by
    unfold M.word
    rw [if_neg h0]
  have HM := Lib.hid hm
  have hpos : 0 < m.told.length := List.length_pos_iff.2 h0
  have d1 : decide ((0 : Int) < (m.told.length : Int)) = true := decide_eq_true (by omega)
  have d2 : decide (0 < m.told.length) = true := decide_eq_true hpos
  have HF := Lib.hid h
  obtain ⟨a, v, l, hi⟩ := h
  obtain ⟨c2, c3, hf⟩ := cells_of hi
  clear hm h0 hi c3 hf
  have HE := Lib.hid (show m.ends ≤ 1000000000 by omega)
  have HS := Lib.hid (show m.told.length + (⟨(List.replicate m.ends (10 : UInt8)).toArray⟩ : ByteArray).size ≤ 140737488355328 by simp [ByteArray.size]; omega)
  go_enter Try.func37, Try.ntmps37
  go_wp2_with (go_at_call 48; refine HL.out.mono ?_)
  rintro e w' ⟨rfl, rfl⟩
  go_wp2_with fail
  go_region_with (first | (go_at_call 50; refine (repeat_d HF.out HE.out).mono ?_; rintro e w1 ⟨rfl, H1, K1⟩) | (go_at_call 49; refine (str_d H1 HS).mono ?_; rintro e w2 ⟨rfl, HD2⟩))
  obtain ⟨F2, ⟨a2, v2, l2, h2⟩, hk2, hF2⟩ := HD2.out
  have c3 := (cells_of h2).2.1
  have H2 := Lib.hid h2
  have HS2 := Lib.hid (show (m.told ++ List.replicate m.ends (10 : UInt8)).length + m.blanks.length ≤ 140737488355328 by simp; omega)
  clear h2
  obtain ⟨ao, cap, rfl⟩ := own_slice w2 H2.out.blanks
  go_wp2_with fail
  go_region_with (go_at_call 51; refine (blanks_d H2 HS2).mono ?_; rintro e w3 ⟨rfl, HD3⟩)
  obtain ⟨F3, h3, hk3, hF3⟩ := HD3.out
  have hl3 : (m.told ++ List.replicate m.ends (10 : UInt8) ++ m.blanks).length + 1 ≤ 140737488355328 := by simp; omega
  generalize hm3 : (M.mk (m.told ++ List.replicate m.ends 10 ++ m.blanks) m.blanks m.ends) = m3 at h3
  have ht3 : m3.told = m.told ++ List.replicate m.ends 10 ++ m.blanks := by rw [← hm3]
  rw [← ht3] at hl3
  have HM3 := Lib.hid (show M.word c m = { told := m3.told ++ [c], blanks := [], ends := 0 } by rw [HM.out, ht3])
  clear hm3 ht3 HD3
  have HC := Lib.hid (byte_fl h3 c hl3)
  clear hl3
  go_wp2_with (go_at_call 52; refine HC.out.mono ?_)
  rintro e w4 ⟨rfl, F4, ⟨a4, v4, l4, h4⟩, hk4, hF4⟩
  obtain ⟨c2, c3, hf⟩ := cells_of h4
  have f2 := hf 2
  have f3 := hf 3
  have hD4 := Does.trans hk4 hF4 (two_set h4 0)
  have hD3 := Does.trans hk3 hF3 hD4
  have hD2 := Does.trans hk2 hF2 hD3
  have HD := Lib.hid (Does.trans K1.out (fun k hf => Or.inl hf) hD2)
  clear h3 h4 hk2 hk3 hk4 hF2 hF3 hF4 hD4 hD3 hD2 hf
  go_wp2
  go_end0
  exact ⟨rfl, by rw [HM3.out]; exact HD.out⟩

theorem word_at (h : Fl w b F m) (c : UInt8) (hb : m.told.length + m.ends + m.blanks.length ≤ 1000000000) : Calls Try.prog 37 #[.pointer (some ⟨b, 0, none⟩), .int .u8 c.toNat] w fun e w' => e = .returned (.tuple #[]) ∧ Does w w' b F (m.word c) := by
  by_cases h0 : m.told = []
  · exact word_first h c h0
  · exact word_later h c h0 hb
end
end Go.Proofs.Ytaejicolhliecaa.Flow
