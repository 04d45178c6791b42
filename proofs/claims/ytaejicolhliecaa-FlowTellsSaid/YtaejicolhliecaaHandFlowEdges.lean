/- What is told neither begins nor ends with a blank, and has no byte 0, and no 13: of every things that are done the law's call returns true: the walk of the law's function over the contracts of what it calls. No condition. -/
import Derived.Test.YtaejicolhliecaaHandFlowParts
import Derived.Test.YtaejicolhliecaaPFlx2
set_option linter.unusedVariables false
namespace Go.Proofs.Ytaejicolhliecaa.HandFlowEdges
open Go.RowKit Go.Lib Go.Proofs.Ytaejicolhliecaa.Buf Go.Proofs.Ytaejicolhliecaa.Flow Go.Proofs.Ytaejicolhliecaa.PFl Go.Proofs.YtaejicolhliecaaW.PrintWords Go.Proofs.Ytaejicolhliecaa.HandFlowParts

/-- What holds of every flow. -/
structure Edge (m : M) : Prop where
  told : ∀ c ∈ m.told, c ≠ 0 ∧ c ≠ 13
  head : ∀ c, m.told.head? = some c → isBlank c = false
  last : ∀ c, m.told.getLast? = some c → isBlank c = false
  blanks : ∀ c ∈ m.blanks, c ≠ 0 ∧ c ≠ 10 ∧ c ≠ 13 ∧ isBlank c = true

theorem edge_none : Edge M.none := ⟨by simp [M.none], by simp [M.none], by simp [M.none], by simp [M.none]⟩
theorem edge_line {m : M} (h : Edge m) : Edge m.line := ⟨h.told, h.head, h.last, by simp [M.line]⟩
theorem edge_brk {m : M} (h : Edge m) (n : Int) : Edge (m.brk n) := ⟨h.told, h.head, h.last, by simp [M.brk]⟩
theorem edge_lose {m : M} (h : Edge m) : Edge m.lose := by
  unfold M.lose
  split
  · exact ⟨h.told, h.head, h.last, by simp; decide⟩
  · exact h
theorem edge_keep {m : M} (h : Edge m) (c : UInt8) (h0 : c ≠ 0) (hb : isBlank c = true) : Edge (m.keep c) := by
  unfold M.keep
  split
  · exact edge_line h
  · rename_i hn
    refine ⟨h.told, h.head, h.last, fun x hx => ?_⟩
    rcases List.mem_append.1 hx with hx | hx
    · exact h.blanks x hx
    · simp only [List.mem_singleton] at hx
      subst hx
      exact ⟨h0, fun e => hn (Or.inl e), fun e => hn (Or.inr e), hb⟩
theorem edge_word {m : M} (h : Edge m) (c : UInt8) (h0 : c ≠ 0) (hb : isBlank c = false) : Edge (m.word c) := by
  have h13 : c ≠ 13 := fun e => by subst e; revert hb; decide
  unfold M.word
  refine ⟨fun x hx => ?_, fun x hx => ?_, fun x hx => ?_, by simp⟩
  · simp only at hx
    rcases List.mem_append.1 hx with hx | hx
    · split at hx
      · simp at hx
      · rcases List.mem_append.1 hx with hx | hx
        · rcases List.mem_append.1 hx with hx | hx
          · exact h.told x hx
          · have := List.eq_of_mem_replicate hx
            subst this
            decide
        · exact ⟨(h.blanks x hx).1, (h.blanks x hx).2.2.1⟩
    · simp only [List.mem_singleton] at hx
      subst hx
      exact ⟨h0, h13⟩
  · simp only at hx
    split at hx
    · simp at hx
      subst hx
      exact hb
    · rename_i hne
      refine h.head x ?_
      cases ht : m.told with
      | nil => exact absurd ht hne
      | cons y r => simpa [ht] using hx
  · simp only [List.getLast?_append, List.getLast?_singleton, Option.some_or, Option.some.injEq] at hx
    subst hx
    exact hb
theorem edge_put1 {m : M} (h : Edge m) (k : Bool) (c : UInt8) : Edge (m.put1 k c) := by
  unfold M.put1
  split
  · exact h
  · rename_i h0
    split
    · rename_i hb
      split
      · exact edge_keep h c h0 hb
      · exact edge_lose h
    · rename_i hb
      exact edge_word h c h0 (by simpa using hb)
theorem edge_put (k : Bool) : ∀ (s : List UInt8) {m : M}, Edge m → Edge (m.put k s)
  | [], m, h => h
  | c :: s, m, h => edge_put k s (edge_put1 h k c)
theorem edge_does {m : M} (h : Edge m) (a : Flow.Act) : Edge (m.does a) := by
  unfold M.does
  split
  · exact edge_put _ _ h
  · split
    · exact edge_brk h _
    · split
      · exact edge_line h
      · exact h
theorem edge_all : ∀ (l : List S32) {m : M}, Edge m → Edge (doAll l m)
  | [], m, h => h
  | x :: l, m, h => edge_all l (edge_does h (act x))

theorem byte_mem (S : ByteArray) (j : Nat) (h : j < S.size) : S[j]'h ∈ S.data.toList := by
  have hl : j < S.data.toList.length := by simpa using h
  exact List.getElem_mem hl
theorem byte_head (S : ByteArray) (h : 0 < S.size) : S.data.toList.head? = some (S[0]'h) := by
  have hl : 0 < S.data.toList.length := by simpa using h
  rw [List.head?_eq_getElem?, List.getElem?_eq_getElem hl]
  rfl
theorem byte_last (S : ByteArray) (h : 0 < S.size) : S.data.toList.getLast? = some (S[S.size - 1]'(by omega)) := by
  have hl : S.data.toList.length = S.size := by simp
  rw [List.getLast?_eq_getElem?, hl, List.getElem?_eq_getElem (by omega)]
  rfl
theorem blank_law (c : UInt8) : flaillaw18_blank.f c.toNat = some (isBlank c) := by
  rcases c with ⟨⟨n⟩⟩
  revert n
  decide +kernel
theorem cB (c : UInt8) (w : World) {b : Bool} (hb : Hid (isBlank c = b)) : Calls Try.prog 21 #[.int .u8 c.toNat] w fun e w' => e = .returned (.bool b) ∧ Drawn0 w w' := flaillaw18_blank.calls c.toNat b w (by rw [blank_law, hb.out])

set_option maxHeartbeats 4000000 in
set_option maxRecDepth 100000 in
theorem edges_off (A : Option Addr) (c : Nat) (l : List S32) (w : World) (hr : Kd.C k32 w A l.length l) (hc : l.length ≤ c) (hf : fewB l = false) : Calls Try.prog 4 #[.slice A l.length c] w fun e w' => e = .returned (.bool true) ∧ Below w.heap.size w w' := by
  have HR := Lib.hid hr
  have HC := Lib.hid hc
  have HF := Lib.hid hf
  clear hr hc hf
  go_enter Try.func4, Try.ntmps4
  go_wp2_with fail
  refine (cA _).mono ?_
  rintro e w1 ⟨rfl, hb1⟩
  have HR1 := Lib.hid (Kd.C_below HR.out hb1.out)
  go_wp2_with fail
  refine (cF A c l HC w1 HR1 HF).mono ?_
  rintro e w2 ⟨rfl, hb2⟩
  have HB := Lib.hid (below_step hb1.out hb2.out)
  go_wp2_with fail
  go_ret
  exact ⟨rfl, HB.out⟩

set_option maxHeartbeats 4000000 in
set_option maxRecDepth 100000 in
theorem edges_on (A : Option Addr) (c : Nat) (l : List S32) (w : World) (hr : Kd.C k32 w A l.length l) (hc : l.length ≤ c) (hwf : ∀ x ∈ l, (Lit.int .i64 x.f3).wf = true) (hf : fewB l = true) : Calls Try.prog 4 #[.slice A l.length c] w fun e w' => e = .returned (.bool true) ∧ Below w.heap.size w w' := by
  have H0 := Lib.hid (sys_nil w)
  have HR := Lib.hid hr
  have HC := Lib.hid hc
  have HF := Lib.hid hf
  have HW := Lib.hid hwf
  clear hr hc hf hwf
  go_enter Try.func4, Try.ntmps4
  go_wp2_with fail
  refine (cA _).mono ?_
  rintro e w1 ⟨rfl, hb1⟩
  have HR1 := Lib.hid (Kd.C_below HR.out hb1.out)
  go_wp2_with fail
  refine (cF A c l HC w1 HR1 HF).mono ?_
  rintro e w2 ⟨rfl, hb2⟩
  have H1 := Lib.hid (H0.out.then (below_step hb1.out hb2.out))
  clear hb1 hb2 HR1
  go_wp2_with fail
  refine (sys_new H1.out).mono ?_
  rintro e w3 ⟨f, rfl, H2⟩
  have H4 : Hid (Flow.Sys w w3 [(f, M.none)]) := H2
  clear H0 H1 H2
  go_wp2_with fail
  go_loopg [6] (l.length + 1) (fun kq v w' => ∃ i : Nat, v = .int .i64 i ∧ Hid (i ≤ l.length) ∧ Hid (l.length < i + kq) ∧ Hid (Flow.Sys w w' [(f, doAll (l.take i) M.none)]))
  case atStart => exact ⟨0, rfl, Lib.hid (Nat.zero_le _), Lib.hid (by omega), H4⟩
  case round =>
    obtain ⟨i, rfl, HI, HK, HS⟩ := hrel
    clear H4
    have hi := HI.out
    have hall := few_all HF.out
    by_cases hlt : i < l.length
    · have d3 : decide ((i : Int) < (l.length : Int)) = true := decide_eq_true (by omega)
      have d4 : decide (i < l.length) = true := decide_eq_true hlt
      obtain ⟨x, hx⟩ : ∃ x, l[i] = x := ⟨_, rfl⟩
      have hmem : x ∈ l := hx ▸ List.getElem_mem hlt
      have hw := HW.out x hmem
      have hx1 := hall.2 x hmem
      have hsz := doAll_size (l.take i) M.none (fun y hy => hall.2 y (List.mem_of_mem_take hy))
      have hsz2 : (doAll (l.take i) M.none).size + x.f1.size ≤ 900000000 := by
        have h60 := hall.1
        simp [M.none, M.size] at hsz ⊢
        omega
      have HZ : Hid ((doAll (l.take i) M.none).size + (act x).s.size ≤ 900000000) := Lib.hid hsz2
      have HN := Lib.hid (show doAll (l.take (i + 1)) M.none = (doAll (l.take i) M.none).does (act x) by rw [take_one l i hlt, hx, doAll_snoc])
      obtain ⟨ad, rfl, c0, c1, c2, c3⟩ := act_cells (Kd.C_below HR.out HS.out.below) i hlt
      rw [hx] at c0 c1 c2 c3
      have hi60 : i ≤ 60 := by have := hall.1; omega
      clear hx hsz hsz2 hmem hx1 hall
      generalize doAll (l.take i) M.none = m1 at HS HZ HN
      cases gk with
      | zero => exact absurd HK.out (by omega)
      | succ k1 =>
        go_wp2_with fail
        refine (sys_does 0 HS rfl (act x) hw HZ).mono ?_
        rintro e w5 ⟨rfl, H5⟩
        have H8 : Hid (Flow.Sys w w5 [(f, doAll (l.take (i + 1)) M.none)]) := by rw [HN.out]; exact H5
        clear c0 c1 c2 c3 H5
        go_wp2_with fail
        go_roundg k1
        case measure => omega
        case rel => exact ⟨i + 1, rfl, Lib.hid (by omega), Lib.hid (by have := HK.out; omega), H8⟩
    · have d3 : decide ((i : Int) < (l.length : Int)) = false := decide_eq_false (by omega)
      have d4 : decide (i < l.length) = false := decide_eq_false hlt
      have hie : i = l.length := by omega
      subst hie
      have hsz := doAll_size l M.none hall.2
      have HZ := Lib.hid (show (doAll l M.none).size ≤ 100000 by
        have h60 := hall.1
        simp [M.none, M.size] at hsz ⊢
        omega)
      have HE := Lib.hid (edge_all l edge_none)
      have HS2 : Hid (Flow.Sys w wr [(f, doAll l M.none)]) := Lib.hid (by have := HS.out; rw [List.take_length] at this; exact this)
      clear HS hsz hall hlt HI HK
      generalize doAll l M.none = m1 at HS2 HZ HE
      go_wp2_with fail
      refine (sys_text 0 HS2 rfl).mono ?_
      rintro e w5 ⟨rfl, H5⟩
      have HL := Lib.hid (show (⟨m1.told.toArray⟩ : ByteArray).size ≤ 100000 by
        have := HZ.out
        unfold M.size at this
        show m1.told.toArray.size ≤ _
        simp
        omega)
      obtain ⟨S, hS⟩ : ∃ S : ByteArray, S = ⟨m1.told.toArray⟩ := ⟨_, rfl⟩
      have ES := Lib.hid (show m1.told = S.data.toList by rw [hS])
      rw [← hS] at HL ⊢
      clear hS
      go_wp2_with fail
      go_loopg [8] (S.size + 1) (fun kq v w' => ∃ j : Nat, v = .int .i64 j ∧ Hid (j ≤ S.size) ∧ Hid (S.size < j + kq) ∧ Hid (w' = w5))
      case atStart => exact ⟨0, rfl, Lib.hid (Nat.zero_le _), Lib.hid (by omega), Lib.hid rfl⟩
      case round =>
        obtain ⟨j, rfl, HI, HK, HWW⟩ := hrel
        obtain rfl := HWW.out
        have hj := HI.out
        have hSl := HL.out
        have hHE := HE.out.told
        rw [ES.out] at hHE
        by_cases hlt : j < S.size
        · have d5 : decide ((j : Int) < (S.size : Int)) = true := decide_eq_true (by omega)
          have d6 : decide (j < S.size) = true := decide_eq_true hlt
          obtain ⟨c, hcc⟩ : ∃ c, S[j]'hlt = c := ⟨_, rfl⟩
          have hcm := hHE c (by rw [← hcc]; exact byte_mem S j hlt)
          have e1 : ((c.toNat : Int) == 0) = false := by
            rw [beq_eq_false_iff_ne]
            intro e
            exact hcm.1 (UInt8.toNat_inj.1 (by simpa using (by omega : c.toNat = 0)))
          have e2 : ((c.toNat : Int) == 13) = false := by
            rw [beq_eq_false_iff_ne]
            intro e
            exact hcm.2 (UInt8.toNat_inj.1 (by simpa using (by omega : c.toNat = 13)))
          clear hHE hcm
          cases gk with
          | zero => exact absurd HK.out (by omega)
          | succ k1 =>
            go_wp2_with fail
            go_roundg k1
            case measure => omega
            case rel => exact ⟨j + 1, rfl, Lib.hid (by omega), Lib.hid (by have := HK.out; omega), Lib.hid rfl⟩
        · have d5 : decide ((j : Int) < (S.size : Int)) = false := decide_eq_false (by omega)
          have d6 : decide (j < S.size) = false := decide_eq_false hlt
          clear hHE hlt HI HK
          by_cases hS0 : S.data.toList = []
          · have q3a : (S.toList == []) = true := by rw [ByteArray.toList_eq, hS0]; rfl
            have q3b : S.toList.isEmpty = true := by rw [ByteArray.toList_eq, hS0]; rfl
            clear hS0
            go_wp2_with fail
            go_ret
            exact ⟨rfl, H5.out.below⟩
          · have q3a : (S.toList == []) = false := by rw [ByteArray.toList_eq]; exact beq_eq_false_iff_ne.2 hS0
            have q3b : S.toList.isEmpty = false := by rw [ByteArray.toList_eq]; cases hh : S.data.toList <;> simp_all
            have hpos : 0 < S.size := by
              have := List.length_pos_iff.2 hS0
              simpa using this
            have d7 : decide ((0 : Int) < (S.size : Int)) = true := decide_eq_true (by omega)
            have d8 : decide (0 < S.size) = true := decide_eq_true hpos
            clear hS0
            have hh0 : isBlank (S[0]'hpos) = false := HE.out.head _ (by rw [ES.out]; exact byte_head S hpos)
            have hh1 : isBlank (S[S.size - 1]'(by omega)) = false := HE.out.last _ (by rw [ES.out]; exact byte_last S hpos)
            have HH0 := Lib.hid hh0
            have HH1 := Lib.hid hh1
            clear hh0 hh1
            go_wp2_with fail
            refine (cB _ _ HH0).mono ?_
            rintro e w' ⟨rfl, ⟨nd, rfl⟩⟩
            go_wp2_with fail
            refine (cB _ _ HH1).mono ?_
            rintro e w' ⟨rfl, ⟨nd2, rfl⟩⟩
            have HB := Lib.hid (pw_below_drewN H5.out.below (nd + nd2))
            go_wp2_with fail
            go_ret
            exact ⟨rfl, HB.out⟩

theorem edges_row (A : Option Addr) (len c : Nat) (w : World) (l : List S32) (hl : l.length = len) (hr : Kd.C k32 w A l.length l) (hc : len ≤ c) (hwf : ∀ x ∈ l, (Lit.int .i64 x.f3).wf = true) : Calls Try.prog 4 #[.slice A len c] w fun e w' => e = .returned (.bool true) ∧ Below w.heap.size w w' := by
  subst hl
  by_cases hf : fewB l = true
  · exact edges_on A c l w hr hc hwf hf
  · exact edges_off A c l w hr hc (by simpa using hf)
end Go.Proofs.Ytaejicolhliecaa.HandFlowEdges
