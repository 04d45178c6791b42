/- How a text is cut plays no part: of every things that are done, a text, a place and a choice the law's call returns true: the walk of the law's function over the contracts of what it calls. No condition. -/
import Derived.Test.YtaejicolhliecaaFew
set_option linter.unusedVariables false
namespace Go.Proofs.Ytaejicolhliecaa.HandFlowParts
open Go.RowKit Go.Lib Go.Proofs.Ytaejicolhliecaa.Buf Go.Proofs.Ytaejicolhliecaa.Flow Go.Proofs.Ytaejicolhliecaa.PFl Go.Proofs.YtaejicolhliecaaW.PrintWords

theorem cF (A : Option Addr) (c : Nat) (l : List S32) (hc : Hid (l.length ≤ c)) (w : World) (hr : Hid (Kd.C k32 w A l.length l)) {r : Bool} (h : Hid (fewB l = r)) : Calls Try.prog 16 #[.slice A l.length c] w fun e w' => e = .returned (.bool r) ∧ Hid (Below w.heap.size w w') := by
  refine (flailref18_Few.calls (l.length + 1) A c l r w hr.out hc.out (by rw [few_at, h.out])).mono ?_
  rintro e w' ⟨h1, h2⟩
  exact ⟨h1, Lib.hid h2.below⟩
theorem cA (w : World) : Calls Try.prog 15 #[] w fun e w' => e = .returned (.bool true) ∧ Hid (Below w.heap.size w w') := (awake_at w).mono fun e w' h => ⟨h.1, Lib.hid h.2⟩

theorem put_cut (k : Bool) (s : ByteArray) (m : M) (K : Nat) (hK : K ≤ s.size) : m.put k s.data.toList = (m.put k (s.extract 0 K).data.toList).put k (s.extract K s.size).data.toList := by
  have h : s.data.toList = (s.extract 0 K).data.toList ++ (s.extract K s.size).data.toList := by
    simp only [ByteArray.data_extract, Array.toList_extract, List.extract_eq_take_drop, List.drop_zero, Nat.sub_zero]
    have : s.data.toList.length = s.size := by simp
    rw [← this, ← List.length_drop, List.take_length, List.take_append_drop]
  conv => lhs; rw [h]
  unfold M.put
  rw [List.foldl_append]

set_option maxHeartbeats 4000000 in
set_option maxRecDepth 100000 in
theorem parts_off (A : Option Addr) (c : Nat) (l : List S32) (s : ByteArray) (at_ : Int) (k : Bool) (w : World) (hr : Kd.C k32 w A l.length l) (hc : l.length ≤ c) (hoff : fewB l = false ∨ 100 < s.size) : Calls Try.prog 8 #[.slice A l.length c, .string s, .int .u8 at_, .bool k] w fun e w' => e = .returned (.bool true) ∧ Below w.heap.size w w' := by
  have H0 := Lib.hid (sys_nil w)
  have HR := Lib.hid hr
  have HC := Lib.hid hc
  clear hr hc
  cases hf : fewB l with
  | false =>
    have HF := Lib.hid hf
    clear hoff hf
    go_enter Try.func8, Try.ntmps8
    go_wp2_with fail
    refine (cA _).mono ?_
    rintro e w1 ⟨rfl, hb1⟩
    have HR1 := Lib.hid (Kd.C_below HR.out hb1.out)
    go_wp2_with fail
    refine (cF A c l HC w1 HR1 HF).mono ?_
    rintro e w2 ⟨rfl, hb2⟩
    have HB := Lib.hid (below_step hb1.out hb2.out)
    go_wp2_with fail
    go_ret
    exact ⟨rfl, HB.out⟩
  | true =>
    have HF := Lib.hid hf
    have hs : 100 < s.size := by
      rcases hoff with h | h
      · rw [hf] at h
        cases h
      · exact h
    have d1 : decide (100 < (s.size : Int)) = true := decide_eq_true (by omega)
    have d2 : decide (100 < s.size) = true := decide_eq_true hs
    clear hoff hf
    go_enter Try.func8, Try.ntmps8
    go_wp2_with fail
    refine (cA _).mono ?_
    rintro e w1 ⟨rfl, hb1⟩
    have HR1 := Lib.hid (Kd.C_below HR.out hb1.out)
    go_wp2_with fail
    refine (cF A c l HC w1 HR1 HF).mono ?_
    rintro e w2 ⟨rfl, hb2⟩
    have HB := Lib.hid (below_step hb1.out hb2.out)
    go_wp2_with fail
    go_ret
    exact ⟨rfl, HB.out⟩

set_option maxHeartbeats 4000000 in
set_option maxRecDepth 100000 in
theorem parts_on (A : Option Addr) (c : Nat) (l : List S32) (s : ByteArray) (at_ : Int) (hat : 0 ≤ at_ ∧ at_ ≤ 255) (k : Bool) (w : World) (hr : Kd.C k32 w A l.length l) (hc : l.length ≤ c) (hwf : ∀ x ∈ l, (Lit.int .i64 x.f3).wf = true) (hf : fewB l = true) (hs : s.size ≤ 100) : Calls Try.prog 8 #[.slice A l.length c, .string s, .int .u8 at_, .bool k] w fun e w' => e = .returned (.bool true) ∧ Below w.heap.size w w' := by
  have H0 := Lib.hid (sys_nil w)
  have HR := Lib.hid hr
  have HC := Lib.hid hc
  have HF := Lib.hid hf
  have HW := Lib.hid hwf
  have d1 : decide (100 < (s.size : Int)) = false := decide_eq_false (by omega)
  have d2 : decide (100 < s.size) = false := decide_eq_false (by omega)
  clear hr hc hf hwf
  go_enter Try.func8, Try.ntmps8
  go_wp2_with fail
  refine (cA _).mono ?_
  rintro e w1 ⟨rfl, hb1⟩
  have HR1 := Lib.hid (Kd.C_below HR.out hb1.out)
  go_wp2_with fail
  refine (cF A c l HC w1 HR1 HF).mono ?_
  rintro e w2 ⟨rfl, hb2⟩
  have H1 := Lib.hid (H0.out.then (below_step hb1.out hb2.out))
  clear hb1 hb2 HR1
  go_wp2_with fail
  refine (sys_new H1.out).mono ?_
  rintro e w3 ⟨f, rfl, H2⟩
  go_wp2_with fail
  refine (sys_new H2.out).mono ?_
  rintro e w4 ⟨g, rfl, H3⟩
  have H4 : Hid (Flow.Sys w w4 [(f, M.none), (g, M.none)]) := H3
  clear H0 H1 H2 H3
  go_wp2_with fail
  go_loopg [13] (l.length + 1) (fun kq v w' => ∃ i : Nat, v = .int .i64 i ∧ Hid (i ≤ l.length) ∧ Hid (l.length < i + kq) ∧ Hid (Flow.Sys w w' [(f, doAll (l.take i) M.none), (g, doAll (l.take i) M.none)]))
  case atStart => exact ⟨0, rfl, Lib.hid (Nat.zero_le _), Lib.hid (by omega), H4⟩
  case round =>
    obtain ⟨i, rfl, HI, HK, HS⟩ := hrel
    clear H4
    have hi := HI.out
    have hall := few_all HF.out
    by_cases hlt : i < l.length
    · have d3 : decide ((i : Int) < (l.length : Int)) = true := decide_eq_true (by omega)
      have d4 : decide (i < l.length) = true := decide_eq_true hlt
      obtain ⟨x, hx⟩ : ∃ x, l[i] = x := ⟨_, rfl⟩
      have hmem : x ∈ l := hx ▸ List.getElem_mem hlt
      have hw := HW.out x hmem
      have hx1 := hall.2 x hmem
      have hsz := doAll_size (l.take i) M.none (fun y hy => hall.2 y (List.mem_of_mem_take hy))
      have hsz2 : (doAll (l.take i) M.none).size + x.f1.size ≤ 900000000 := by
        have h60 := hall.1
        simp [M.none, M.size] at hsz ⊢
        omega
      have HZ : Hid ((doAll (l.take i) M.none).size + (act x).s.size ≤ 900000000) := Lib.hid hsz2
      have HN := Lib.hid (show doAll (l.take (i + 1)) M.none = (doAll (l.take i) M.none).does (act x) by rw [take_one l i hlt, hx, doAll_snoc])
      obtain ⟨ad, rfl, c0, c1, c2, c3⟩ := act_cells (Kd.C_below HR.out HS.out.below) i hlt
      rw [hx] at c0 c1 c2 c3
      have hx0 := Lib.hid hx
      have hi60 : i ≤ 60 := by have := hall.1; omega
      clear hx hsz hsz2 hmem hx1 hall
      generalize doAll (l.take i) M.none = m1 at HS HZ HN
      cases gk with
      | zero => exact absurd HK.out (by omega)
      | succ k1 =>
        go_wp2_with fail
        refine (sys_does 0 HS rfl (act x) hw HZ).mono ?_
        rintro e w5 ⟨rfl, H5⟩
        have H6 : Hid (Flow.Sys w w5 [(f, m1.does (act x)), (g, m1)]) := H5
        clear c0 c1 c2 c3 H5
        obtain ⟨ad2, e2, c0, c1, c2, c3⟩ := act_cells (Kd.C_below HR.out H6.out.below) i hlt
        obtain rfl := Option.some.inj e2
        obtain ⟨y, hy⟩ : ∃ y, l[i] = y := ⟨_, rfl⟩
        rw [hy] at c0 c1 c2 c3
        have hyx : y = x := by rw [← hy, hx0.out]
        subst hyx
        clear hy
        go_wp2_with fail
        refine (sys_does 1 H6 rfl (act y) hw HZ).mono ?_
        rintro e w6 ⟨rfl, H7⟩
        have H8 : Hid (Flow.Sys w w6 [(f, doAll (l.take (i + 1)) M.none), (g, doAll (l.take (i + 1)) M.none)]) := by rw [HN.out]; exact H7
        clear c0 c1 c2 c3 H7 H6
        go_wp2_with fail
        go_roundg k1
        case measure => omega
        case rel => exact ⟨i + 1, rfl, Lib.hid (by omega), Lib.hid (by have := HK.out; omega), H8⟩
    · have d3 : decide ((i : Int) < (l.length : Int)) = false := decide_eq_false (by omega)
      have d4 : decide (i < l.length) = false := decide_eq_false hlt
      have hie : i = l.length := by omega
      subst hie
      have hsz := doAll_size l M.none hall.2
      have HZ := Lib.hid (show (doAll l M.none).size ≤ 100000 by
        have h60 := hall.1
        simp [M.none, M.size] at hsz ⊢
        omega)
      have HS2 : Hid (Flow.Sys w wr [(f, doAll l M.none), (g, doAll l M.none)]) := Lib.hid (by have := HS.out; rw [List.take_length] at this; exact this)
      clear HS hsz hall hlt HI HK
      generalize doAll l M.none = m1 at HS2 HZ
      obtain ⟨K, hK⟩ : ∃ K : Nat, at_ % ((s.size : Int) + 1) = K := ⟨(at_ % ((s.size : Int) + 1)).toNat, by have := Int.emod_nonneg at_ (show (s.size : Int) + 1 ≠ 0 by omega); omega⟩
      have hKs : K ≤ s.size := by have := Int.emod_lt_of_pos at_ (show (0 : Int) < (s.size : Int) + 1 by omega); omega
      have b1 : decide ((K : Int) ≤ (s.size : Int)) = true := decide_eq_true (by omega)
      have b2 : decide (K ≤ s.size) = true := decide_eq_true hKs
      have HZ1 := Lib.hid (show m1.size + s.size ≤ 1000000000 by have := HZ.out; omega)
      go_wp2_with fail
      refine (sys_put 0 HS2 rfl s k HZ1).mono ?_
      rintro e w5 ⟨rfl, H5⟩
      have H6 : Hid (Flow.Sys w w5 [(f, m1.put k s.data.toList), (g, m1)]) := H5
      clear H5 HS2
      go_wp2_with fail
      have hz1 := put_size k (s.extract 0 K).data.toList m1
      have hz2 := put_size k s.data.toList m1
      have hl1 : (s.extract 0 K).data.toList.length = K := by simp; omega
      have hl2 : (s.extract K s.size).data.toList.length = s.size - K := by simp
      have hl3 : s.data.toList.length = s.size := by simp
      have hcut := put_cut k s m1 K hKs
      have hq1 : (s.extract 0 K).size = K := by simp; omega
      have hq2 : (s.extract K s.size).size = s.size - K := by simp
      have HZ2 := Lib.hid (show m1.size + (s.extract 0 K).size ≤ 1000000000 by have := HZ.out; omega)
      have HZ3 := Lib.hid (show (m1.put k (s.extract 0 K).data.toList).size + (s.extract K s.size).size ≤ 1000000000 by have := HZ.out; omega)
      have HZ4 := Lib.hid (show (m1.put k s.data.toList).size + (⟨#[]⟩ : ByteArray).size ≤ 1000000000 by have := HZ.out; show _ + 0 ≤ _; omega)
      have HZ5 := Lib.hid (show (m1.put k s.data.toList).size + (⟨#[120]⟩ : ByteArray).size ≤ 1000000000 by have := HZ.out; show _ + 1 ≤ _; omega)
      refine (sys_put 1 H6 rfl (s.extract 0 K) k HZ2).mono ?_
      rintro e w6 ⟨rfl, H7⟩
      have H8 : Hid (Flow.Sys w w6 [(f, m1.put k s.data.toList), (g, m1.put k (s.extract 0 K).data.toList)]) := H7
      clear H7 H6 HZ2 hz1 hz2 hl1 hl2 hl3 hq1 hq2
      go_wp2_with fail
      refine (sys_put 1 H8 rfl (s.extract K s.size) k HZ3).mono ?_
      rintro e w7 ⟨rfl, H9⟩
      have H10 : Hid (Flow.Sys w w7 [(f, m1.put k s.data.toList), (g, m1.put k s.data.toList)]) := Lib.hid (by have := H9.out; rw [← hcut] at this; exact this)
      clear H9 H8 HZ3 hcut
      generalize m1.put k s.data.toList = m2 at H10 HZ4 HZ5
      go_wp2_with fail
      refine (sys_put 1 H10 rfl ⟨#[]⟩ (!k) HZ4).mono ?_
      rintro e w8 ⟨rfl, H11⟩
      have H12 : Hid (Flow.Sys w w8 [(f, m2), (g, m2)]) := H11
      clear H11 H10
      go_wp2_with fail
      refine (sys_text 0 H12 rfl).mono ?_
      rintro e w9 ⟨rfl, H13⟩
      go_wp2_with fail
      refine (sys_text 1 H13 rfl).mono ?_
      rintro e w10 ⟨rfl, H14⟩
      have e1 : (m2.told == m2.told) = true := beq_self_eq_true _
      go_wp2_with fail
      refine (sys_put 0 H14 rfl ⟨#[120]⟩ k HZ5).mono ?_
      rintro e w11 ⟨rfl, H15⟩
      have H16 : Hid (Flow.Sys w w11 [(f, m2.put k [120]), (g, m2)]) := H15
      go_wp2_with fail
      refine (sys_put 1 H16 rfl ⟨#[120]⟩ k HZ5).mono ?_
      rintro e w12 ⟨rfl, H17⟩
      have H18 : Hid (Flow.Sys w w12 [(f, m2.put k [120]), (g, m2.put k [120])]) := H17
      generalize m2.put k [120] = m3 at H18
      have e2 : (m3.told == m3.told) = true := beq_self_eq_true _
      go_wp2_with fail
      refine (sys_text 0 H18 rfl).mono ?_
      rintro e w13 ⟨rfl, H19⟩
      go_wp2_with fail
      refine (sys_text 1 H19 rfl).mono ?_
      rintro e w14 ⟨rfl, H20⟩
      go_wp2_with fail
      go_ret
      exact ⟨rfl, H20.out.below⟩

theorem parts_row (A : Option Addr) (len c : Nat) (s : ByteArray) (at_ : Int) (k : Bool) (w : World) (l : List S32) (hl : l.length = len) (hr : Kd.C k32 w A l.length l) (hc : len ≤ c) (hwf : ∀ x ∈ l, (Lit.int .i64 x.f3).wf = true) (h1 : s.size ≤ 140737488351232) (h2 : (Lit.int .u8 at_).wf = true) : Calls Try.prog 8 #[.slice A len c, .string s, .int .u8 at_, .bool k] w fun e w' => e = .returned (.bool true) ∧ Below w.heap.size w w' := by
  subst hl
  simp only [Lit.wf, Bool.and_eq_true, decide_eq_true_eq] at h2
  by_cases hf : fewB l = true
  · by_cases hs : s.size ≤ 100
    · exact parts_on A c l s at_ h2 k w hr hc hwf hf hs
    · exact parts_off A c l s at_ k w hr hc (Or.inr (by omega))
  · exact parts_off A c l s at_ k w hr hc (Or.inl (by simpa using hf))
end Go.Proofs.Ytaejicolhliecaa.HandFlowParts
