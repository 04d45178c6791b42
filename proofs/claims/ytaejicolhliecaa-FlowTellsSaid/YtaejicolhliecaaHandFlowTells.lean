/- What is told is as the document says, at each step: of every things that are done the law's call returns true: the walk of the law's function over the contracts of what it calls. No condition. -/
import Derived.Test.YtaejicolhliecaaRefDo
set_option linter.unusedVariables false
namespace Go.Proofs.Ytaejicolhliecaa.HandFlowTells
open Go.RowKit Go.Lib Go.Proofs.Ytaejicolhliecaa.Buf Go.Proofs.Ytaejicolhliecaa.Flow Go.Proofs.Ytaejicolhliecaa.PFl Go.Proofs.YtaejicolhliecaaW.PrintWords Go.Proofs.Ytaejicolhliecaa.HandFlowParts Go.Proofs.Ytaejicolhliecaa.HandFlowEdges

/-- A flow and the document's own, side by side, both behind w0. -/
def Pair (w0 w : World) (f : Nat) (mf : M) (r : Nat) (mr : M) : Prop := Below w0.heap.size w0 w ∧ w0.heap.size ≤ r ∧ Rf w r mr ∧ ∃ F, Fl w f F mf ∧ (∀ k, F k → w0.heap.size ≤ k) ∧ ¬ F r

theorem pair_step {w0 w w' : World} {f r : Nat} {mf mr mf' : M} (h : Pair w0 w f mf r mr) (hd : ∀ F, Fl w f F mf → ¬ F r → (∀ k, F k → w0.heap.size ≤ k) → Does w w' f F mf') : Pair w0 w' f mf' r mr := by
  obtain ⟨h1, h2, h3, F, h4, h5, h6⟩ := h
  obtain ⟨F', h7, h8, h9⟩ := hd F h4 h6 h5
  have hr := Buf.lt_of_heap h3
  refine ⟨h1.trans (h8.below h1.size (fun k hk hf => by have := h5 k hf; omega)), h2, (h8.block r hr h6).trans h3, F', h7, fun k hk => ?_, fun hk => ?_⟩
  · rcases h9 k hk with e | e
    · exact h5 k e
    · exact Nat.le_trans h1.size e
  · rcases h9 r hk with e | e
    · exact h6 e
    · omega
theorem pair_does {w0 w : World} {f r : Nat} {mf mr : M} (h : Hid (Pair w0 w f mf r mr)) (a : Flow.Act) (hn : (Lit.int .i64 a.n).wf = true) (hb : Hid (mf.size + a.s.size ≤ 900000000)) : Calls Try.prog 18 #[.pointer (some ⟨f, 0, none⟩), a.val] w fun e w' => e = .returned (.tuple #[]) ∧ Hid (Pair w0 w' f (mf.does a) r mr) := by
  obtain ⟨h1, h2, h3, F, h4, h5, h6⟩ := h.out
  refine (does_at h4 a hn hb.out).mono ?_
  rintro e w' ⟨h7, F', h8, h9, h10⟩
  have hr := Buf.lt_of_heap h3
  refine ⟨h7, Lib.hid ⟨h1.trans (h9.below h1.size (fun k hk hf => by have := h5 k hf; omega)), h2, (h9.block r hr h6).trans h3, F', h8, fun k hk => ?_, fun hk => ?_⟩⟩
  · rcases h10 k hk with e | e
    · exact h5 k e
    · exact Nat.le_trans h1.size e
  · rcases h10 r hk with e | e
    · exact h6 e
    · omega
theorem pair_text {w0 w : World} {f r : Nat} {mf mr : M} (h : Hid (Pair w0 w f mf r mr)) : Calls Try.prog 20 #[.pointer (some ⟨f, 0, none⟩)] w fun e w' => e = .returned (.string ⟨mf.told.toArray⟩) ∧ Hid (Pair w0 w' f mf r mr) := by
  obtain ⟨h1, h2, h3, F, h4, h5, h6⟩ := h.out
  refine (text_at h4).mono ?_
  rintro e w' ⟨h7, h8, h9⟩
  have hr := Buf.lt_of_heap h3
  exact ⟨h7, Lib.hid ⟨h1.trans (h9.below h1.size (fun k hk hf => by have := h5 k hf; omega)), h2, (h9.block r hr h6).trans h3, F, h8, h5, h6⟩⟩
theorem pair_do {w0 w : World} {f r : Nat} {mf mr : M} (h : Hid (Pair w0 w f mf r mr)) (a : Flow.Act) (hb : Hid (mr.size + a.s.size ≤ 900000000)) : Calls Try.prog 19 #[.pointer (some ⟨r, 0, none⟩), a.val] w fun e w' => e = .returned (.tuple #[]) ∧ Hid (Pair w0 w' f mf r (mr.does a)) := by
  obtain ⟨h1, h2, h3, F, h4, h5, h6⟩ := h.out
  refine (rdo_at h3 a hb.out).mono ?_
  rintro e w' ⟨h7, h8, h9⟩
  exact ⟨h7, Lib.hid ⟨h1.trans (h9.below h1.size (fun k hk e => by omega)), h2, h8, F, h4.kp h9 (fun k hf e => h6 (e ▸ hf)), h5, h6⟩⟩
theorem pair_drew {w0 w : World} {f r : Nat} {mf mr : M} (h : Pair w0 w f mf r mr) : Pair w0 w.drew f mf r mr := by
  obtain ⟨h1, h2, h3, F, h4, h5, h6⟩ := h
  exact ⟨⟨h1.os, h1.tape, h1.output, h1.size, h1.block⟩, h2, h3, F, h4.kp (G := fun _ => False) ((Kp.refl _ w).drew) (fun _ _ h => h), h5, h6⟩
theorem pair_new {w0 w : World} (h : Below w0.heap.size w0 w) : Pair w0 ((w.alloc (.cells #[.pointer none, .slice none 0 0, .int .i64 0, .slice none 0 0] 62)).alloc (.cells (rcells M.none) 29)) w.heap.size M.none (w.heap.size + 1) M.none := by
  have hs : (w.alloc (.cells #[.pointer none, .slice none 0 0, .int .i64 0, .slice none 0 0] 62)).heap.size = w.heap.size + 1 := by simp
  have hsz := h.size
  refine ⟨(h.alloc h.size _).alloc (by omega) _, by omega, ?_, fun k => k = w.heap.size, (new_fl w).kp (G := fun _ => False) ((Kp.refl _ _).alloc _) (fun _ _ h => h), fun k e => by omega, fun e => by omega⟩
  have := heap_alloc_new (w.alloc (.cells #[.pointer none, .slice none 0 0, .int .i64 0, .slice none 0 0] 62)) (.cells (rcells M.none) 29)
  rw [hs] at this
  exact this
theorem pair_cell {w0 w : World} {f r : Nat} {mf mr : M} (h : Pair w0 w f mf r mr) : w.cell? ⟨r, 0, none⟩ = some (.string ⟨mr.told.toArray⟩) := (rf_cells h.2.2.1).1

theorem pair_text_d {w0 w : World} {f r : Nat} {mf mr : M} (h : Hid (Pair w0 w f mf r mr)) : Calls Try.prog 20 #[.pointer (some ⟨f, 0, none⟩)] w.drew fun e w' => e = .returned (.string ⟨mf.told.toArray⟩) ∧ Hid (Pair w0 w' f mf r mr) ∧ w'.cell? ⟨r, 0, none⟩ = some (.string ⟨mr.told.toArray⟩) := by
  refine (pair_text (Lib.hid (pair_drew h.out))).mono ?_
  rintro e w' ⟨h1, h2⟩
  exact ⟨h1, h2, pair_cell h2.out⟩

set_option maxHeartbeats 4000000 in
set_option maxRecDepth 100000 in
theorem tells_off (A : Option Addr) (c : Nat) (l : List S32) (w : World) (hr : Kd.C k32 w A l.length l) (hc : l.length ≤ c) (hf : fewB l = false) : Calls Try.prog 3 #[.slice A l.length c] w fun e w' => e = .returned (.bool true) ∧ Below w.heap.size w w' := by
  have HR := Lib.hid hr
  have HC := Lib.hid hc
  have HF := Lib.hid hf
  clear hr hc hf
  go_enter Try.func3, Try.ntmps3
  go_wp2_with fail
  refine (cA _).mono ?_
  rintro e w1 ⟨rfl, hb1⟩
  have HR1 := Lib.hid (Kd.C_below HR.out hb1.out)
  go_wp2_with fail
  refine (cF A c l HC w1 HR1 HF).mono ?_
  rintro e w2 ⟨rfl, hb2⟩
  have HB := Lib.hid (below_step hb1.out hb2.out)
  go_wp2_with fail
  go_ret
  exact ⟨rfl, HB.out⟩

set_option maxHeartbeats 4000000 in
set_option maxRecDepth 100000 in
theorem tells_on (A : Option Addr) (c : Nat) (l : List S32) (w : World) (hr : Kd.C k32 w A l.length l) (hc : l.length ≤ c) (hwf : ∀ x ∈ l, (Lit.int .i64 x.f3).wf = true) (hf : fewB l = true) : Calls Try.prog 3 #[.slice A l.length c] w fun e w' => e = .returned (.bool true) ∧ Below w.heap.size w w' := by
  have HR := Lib.hid hr
  have HC := Lib.hid hc
  have HF := Lib.hid hf
  have HW := Lib.hid hwf
  clear hr hc hf hwf
  go_enter Try.func3, Try.ntmps3
  go_wp2_with fail
  refine (cA _).mono ?_
  rintro e w1 ⟨rfl, hb1⟩
  have HR1 := Lib.hid (Kd.C_below HR.out hb1.out)
  go_wp2_with fail
  refine (cF A c l HC w1 HR1 HF).mono ?_
  rintro e w2 ⟨rfl, hb2⟩
  have HP := Lib.hid (pair_new (below_step hb1.out hb2.out))
  clear hb1 hb2 HR1
  go_wp2_with fail
  refine (new_at w2).mono ?_
  rintro e w3 ⟨rfl, rfl⟩
  go_wp2_with fail
  generalize w2.heap.size = f at *
  go_loopg [7] (l.length + 1) (fun kq v w' => ∃ i : Nat, v = .int .i64 i ∧ Hid (i ≤ l.length) ∧ Hid (l.length < i + kq) ∧ Hid (Pair w w' f (doAll (l.take i) M.none) (f + 1) (doAll (l.take i) M.none)))
  case atStart => exact ⟨0, rfl, Lib.hid (Nat.zero_le _), Lib.hid (by omega), HP⟩
  case round =>
    obtain ⟨i, rfl, HI, HK, HS⟩ := hrel
    clear HP
    have hi := HI.out
    have hall := few_all HF.out
    by_cases hlt : i < l.length
    · have d3 : decide ((i : Int) < (l.length : Int)) = true := decide_eq_true (by omega)
      have d4 : decide (i < l.length) = true := decide_eq_true hlt
      obtain ⟨x, hx⟩ : ∃ x, l[i] = x := ⟨_, rfl⟩
      have hmem : x ∈ l := hx ▸ List.getElem_mem hlt
      have hw := HW.out x hmem
      have hx1 := hall.2 x hmem
      have hsz := doAll_size (l.take i) M.none (fun y hy => hall.2 y (List.mem_of_mem_take hy))
      have hsz2 : (doAll (l.take i) M.none).size + x.f1.size ≤ 900000000 := by
        have h60 := hall.1
        simp [M.none, M.size] at hsz ⊢
        omega
      have HZ : Hid ((doAll (l.take i) M.none).size + (act x).s.size ≤ 900000000) := Lib.hid hsz2
      have HN := Lib.hid (show doAll (l.take (i + 1)) M.none = (doAll (l.take i) M.none).does (act x) by rw [take_one l i hlt, hx, doAll_snoc])
      obtain ⟨ad, rfl, c0, c1, c2, c3⟩ := act_cells (Kd.C_below HR.out HS.out.1) i hlt
      rw [hx] at c0 c1 c2 c3
      have hi60 : i ≤ 60 := by have := hall.1; omega
      have HX := Lib.hid hx
      clear hx hsz hsz2 hmem hx1 hall
      generalize doAll (l.take i) M.none = m1 at HS HZ HN
      cases gk with
      | zero => exact absurd HK.out (by omega)
      | succ k1 =>
        go_wp2_with fail
        refine (pair_does HS (act x) hw HZ).mono ?_
        rintro e w5 ⟨rfl, H5⟩
        clear c0 c1 c2 c3 HS
        obtain ⟨ad2, e2, c0, c1, c2, c3⟩ := act_cells (Kd.C_below HR.out H5.out.1) i hlt
        obtain rfl := Option.some.inj e2
        rw [HX.out] at c0 c1 c2 c3
        clear e2
        go_wp2_with fail
        refine (pair_do H5 (act x) HZ).mono ?_
        rintro e w6 ⟨rfl, H6⟩
        have H7 : Hid (Pair w w6 f (doAll (l.take (i + 1)) M.none) (f + 1) (doAll (l.take (i + 1)) M.none)) := by rw [HN.out]; exact H6
        clear c0 c1 c2 c3 H5 H6 HZ HN
        obtain ⟨m2, hm2⟩ : ∃ m2, doAll (l.take (i + 1)) M.none = m2 := ⟨_, rfl⟩
        have HM2 := Lib.hid hm2
        rw [hm2] at H7
        clear hm2
        have e1 : (m2.told != m2.told) = false := by simp
        have ct := pair_cell H7.out
        go_wp2_with fail
        go_region_with (go_at_call 20; refine (pair_text_d H7).mono ?_; rintro e w7 ⟨rfl, H8, ct2⟩)
        all_goals (
          go_wp2_with fail
          go_roundg k1
          case measure => omega
          case rel => exact ⟨i + 1, rfl, Lib.hid (by omega), Lib.hid (by have := HK.out; omega), Lib.hid (by rw [HM2.out]; exact H8.out)⟩)
    · have d3 : decide ((i : Int) < (l.length : Int)) = false := decide_eq_false (by omega)
      have d4 : decide (i < l.length) = false := decide_eq_false hlt
      have ct := pair_cell HS.out
      generalize doAll (l.take i) M.none = m1 at HS ct
      have e1 : (m1.told == m1.told) = true := by simp
      go_wp2_with fail
      go_region_with (go_at_call 20; refine (pair_text_d HS).mono ?_; rintro e w7 ⟨rfl, H8, ct2⟩)
      all_goals (
        go_wp2_with fail
        go_ret
        exact ⟨rfl, H8.out.1⟩)

theorem tells_row (A : Option Addr) (len c : Nat) (w : World) (l : List S32) (hl : l.length = len) (hr : Kd.C k32 w A l.length l) (hc : len ≤ c) (hwf : ∀ x ∈ l, (Lit.int .i64 x.f3).wf = true) : Calls Try.prog 3 #[.slice A len c] w fun e w' => e = .returned (.bool true) ∧ Below w.heap.size w w' := by
  subst hl
  by_cases hf : fewB l = true
  · exact tells_on A c l w hr hc hwf hf
  · exact tells_off A c l w hr hc (by simpa using hf)
end Go.Proofs.Ytaejicolhliecaa.HandFlowTells
