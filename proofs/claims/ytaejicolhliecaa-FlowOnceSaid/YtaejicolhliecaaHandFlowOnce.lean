/- What was told, put again and kept, is told again; put without being kept it has no two blanks side by side, and no line's end: of every things that are done the law's call returns true: the walk of the law's function over the contracts of what it calls. No condition. -/
import Derived.Test.YtaejicolhliecaaHandFlowEdges
set_option linter.unusedVariables false
namespace Go.Proofs.Ytaejicolhliecaa.HandFlowOnce
open Go.RowKit Go.Lib Go.Proofs.Ytaejicolhliecaa.Buf Go.Proofs.Ytaejicolhliecaa.Flow Go.Proofs.Ytaejicolhliecaa.PFl Go.Proofs.YtaejicolhliecaaW.PrintWords Go.Proofs.Ytaejicolhliecaa.HandFlowParts Go.Proofs.Ytaejicolhliecaa.HandFlowEdges

theorem put_app (k : Bool) (a b : List UInt8) (m : M) : m.put k (a ++ b) = (m.put k a).put k b := by
  unfold M.put
  rw [List.foldl_append]
theorem put_cons (k : Bool) (c : UInt8) (b : List UInt8) (m : M) : m.put k (c :: b) = (m.put1 k c).put k b := rfl

theorem put_ends (t b : List UInt8) : ∀ (n e : Nat), (M.put true (List.replicate n 10) ⟨t, [], e⟩) = ⟨t, [], e + n⟩
  | 0, e => rfl
  | n + 1, e => by
    rw [List.replicate_succ, put_cons]
    have : M.put1 true 10 ⟨t, [], e⟩ = ⟨t, [], e + 1⟩ := rfl
    rw [this, put_ends t b n (e + 1)]
    congr 1
    omega
theorem put_blanks (t : List UInt8) (e : Nat) : ∀ (bl pre : List UInt8), (∀ c ∈ bl, c ≠ 0 ∧ c ≠ 10 ∧ c ≠ 13 ∧ isBlank c = true) → M.put true bl ⟨t, pre, e⟩ = ⟨t, pre ++ bl, e⟩
  | [], pre, _ => by simp [M.put]
  | c :: bl, pre, h => by
    obtain ⟨h0, h10, h13, hb⟩ := h c (List.mem_cons_self)
    rw [put_cons]
    have : M.put1 true c ⟨t, pre, e⟩ = ⟨t, pre ++ [c], e⟩ := by
      unfold M.put1
      rw [if_neg h0, if_pos hb, if_pos rfl]
      unfold M.keep
      rw [if_neg (by rintro (e | e); exact h10 e; exact h13 e)]
    rw [this, put_blanks t e bl (pre ++ [c]) (fun x hx => h x (List.mem_cons_of_mem _ hx))]
    simp

theorem byte_at (S : ByteArray) (j : Nat) (h : j < S.size) : S.data.toList[j]? = some (S[j]'h) := by
  have hl : j < S.data.toList.length := by simpa using h
  rw [List.getElem?_eq_getElem hl]
  rfl

/-- What was told, put again and kept. -/
def Again (m : M) : Prop := M.none.put true m.told = ⟨m.told, [], 0⟩
theorem again_none : Again M.none := rfl
theorem again_word {m : M} (h : Again m) (he : HandFlowEdges.Edge m) (c : UInt8) (h0 : c ≠ 0) (hb : isBlank c = false) : Again (m.word c) := by
  unfold Again at h ⊢
  have hp : ∀ q : M, q.put1 true c = q.word c := fun q => by
    unfold M.put1
    rw [if_neg h0, if_neg (by rw [hb]; simp)]
  by_cases ht : m.told = []
  · have : (m.word c).told = [c] := by unfold M.word; rw [if_pos ht]; rfl
    rw [this, put_cons, hp]
    rfl
  · have : (m.word c).told = m.told ++ List.replicate m.ends 10 ++ m.blanks ++ [c] := by unfold M.word; rw [if_neg ht]
    rw [this, put_app, put_app, put_app, h, put_ends m.told [] m.ends 0, put_blanks _ _ _ _ he.blanks, put_cons, hp]
    unfold M.word
    rw [if_neg ht]
    simp [M.put]
theorem again_same {m m' : M} (h : Again m) (e : m'.told = m.told) : Again m' := by
  unfold Again at h ⊢
  rw [e]
  exact h
theorem again_lose {m : M} (h : Again m) : Again m.lose := by
  unfold M.lose
  split
  · exact again_same h rfl
  · exact h
theorem again_keep {m : M} (h : Again m) (c : UInt8) : Again (m.keep c) := by
  unfold M.keep
  split
  · exact again_same h rfl
  · exact again_same h rfl
theorem again_put1 {m : M} (h : Again m) (he : HandFlowEdges.Edge m) (k : Bool) (c : UInt8) : Again (m.put1 k c) := by
  unfold M.put1
  split
  · exact h
  · rename_i h0
    split
    · split
      · exact again_keep h c
      · exact again_lose h
    · rename_i hb
      exact again_word h he c h0 (by simpa using hb)
theorem again_put (k : Bool) : ∀ (s : List UInt8) {m : M}, Again m → HandFlowEdges.Edge m → Again (m.put k s)
  | [], m, h, _ => h
  | c :: s, m, h, he => again_put k s (again_put1 h he k c) (edge_put1 he k c)
theorem again_does {m : M} (h : Again m) (he : HandFlowEdges.Edge m) (a : Flow.Act) : Again (m.does a) := by
  unfold M.does
  split
  · exact again_put _ _ h he
  · split
    · exact again_same h rfl
    · split
      · exact again_same h rfl
      · exact h
theorem again_all : ∀ (l : List S32) {m : M}, Again m → HandFlowEdges.Edge m → Again (doAll l m)
  | [], m, h, _ => h
  | x :: l, m, h, he => again_all l (again_does h he (act x)) (edge_does he (act x))

/-- Where nothing was kept. -/
structure Lost (m : M) : Prop where
  ends : m.ends = 0
  blanks : m.blanks = [] ∨ m.blanks = [32]
  only : ∀ c ∈ m.told, isBlank c = true → c = 32
  last : ∀ c, m.told.getLast? = some c → isBlank c = false
  apart : ∀ i : Nat, m.told[i]? = some 32 → m.told[i + 1]? ≠ some 32
theorem lost_none : Lost M.none := ⟨rfl, Or.inl rfl, by simp [M.none], by simp [M.none], by simp [M.none]⟩
theorem lost_lose {m : M} (h : Lost m) : Lost m.lose := by
  unfold M.lose
  split
  · exact ⟨h.ends, Or.inr rfl, h.only, h.last, h.apart⟩
  · exact h
theorem apart_snoc {l : List UInt8} {c : UInt8} (h : ∀ i : Nat, l[i]? = some 32 → l[i + 1]? ≠ some 32) (hc : c ≠ 32 ∨ ∀ x, l.getLast? = some x → x ≠ 32) : ∀ i : Nat, (l ++ [c])[i]? = some 32 → (l ++ [c])[i + 1]? ≠ some 32 := by
  intro i h1 h2
  have hlt := (List.getElem?_eq_some_iff.1 h2).1
  simp at hlt
  rw [List.getElem?_append_left (by omega)] at h1
  by_cases hi : i + 1 < l.length
  · rw [List.getElem?_append_left hi] at h2
    exact h i h1 h2
  · have hil : i + 1 = l.length := by omega
    rw [List.getElem?_append_right (by omega)] at h2
    simp [hil] at h2
    rcases hc with hc | hc
    · exact hc h2
    · refine hc 32 ?_ rfl
      rw [List.getLast?_eq_getElem?, ← hil]
      exact h1
theorem lost_word {m : M} (h : Lost m) (c : UInt8) (hb : isBlank c = false) : Lost (m.word c) := by
  have hc32 : c ≠ 32 := fun e => by subst e; revert hb; decide
  have hlast : ∀ x, m.told.getLast? = some x → x ≠ 32 := fun x hx e => by
    have := h.last x hx
    rw [e] at this
    revert this
    decide
  have hap : ∀ i : Nat, (if m.told = [] then [] else m.told ++ List.replicate m.ends 10 ++ m.blanks)[i]? = some 32 → (if m.told = [] then [] else m.told ++ List.replicate m.ends 10 ++ m.blanks)[i + 1]? ≠ some 32 := by
    split
    · simp
    · rw [h.ends]
      rcases h.blanks with e | e
      · rw [e]
        simpa using h.apart
      · rw [e]
        simp only [List.replicate_zero, List.append_nil]
        exact apart_snoc h.apart (Or.inr hlast)
  refine ⟨rfl, Or.inl rfl, fun x hx hbx => ?_, fun x hx => ?_, apart_snoc hap (Or.inl hc32)⟩
  · unfold M.word at hx
    rcases List.mem_append.1 hx with hx | hx
    · split at hx
      · simp at hx
      · rw [h.ends] at hx
        rcases List.mem_append.1 hx with hx | hx
        · exact h.only x (by simpa using hx) hbx
        · rcases h.blanks with e | e
          · rw [e] at hx
            simp at hx
          · rw [e] at hx
            simpa using hx
    · simp only [List.mem_singleton] at hx
      subst hx
      rw [hb] at hbx
      cases hbx
  · unfold M.word at hx
    simp only [List.getLast?_append, List.getLast?_singleton, Option.some_or, Option.some.injEq] at hx
    subst hx
    exact hb
theorem lost_put1 {m : M} (h : Lost m) (c : UInt8) : Lost (m.put1 false c) := by
  unfold M.put1
  split
  · exact h
  · split
    · simp only [Bool.false_eq_true, if_false]
      exact lost_lose h
    · rename_i hb
      exact lost_word h c (by simpa using hb)
theorem lost_put : ∀ (s : List UInt8) {m : M}, Lost m → Lost (m.put false s)
  | [], m, h => h
  | c :: s, m, h => lost_put s (lost_put1 h c)

set_option maxHeartbeats 4000000 in
set_option maxRecDepth 100000 in
theorem once_off (A : Option Addr) (c : Nat) (l : List S32) (w : World) (hr : Kd.C k32 w A l.length l) (hc : l.length ≤ c) (hf : fewB l = false) : Calls Try.prog 6 #[.slice A l.length c] w fun e w' => e = .returned (.bool true) ∧ Below w.heap.size w w' := by
  have HR := Lib.hid hr
  have HC := Lib.hid hc
  have HF := Lib.hid hf
  clear hr hc hf
  go_enter Try.func6, Try.ntmps6
  go_wp2_with fail
  refine (cA _).mono ?_
  rintro e w1 ⟨rfl, hb1⟩
  have HR1 := Lib.hid (Kd.C_below HR.out hb1.out)
  go_wp2_with fail
  refine (cF A c l HC w1 HR1 HF).mono ?_
  rintro e w2 ⟨rfl, hb2⟩
  have HB := Lib.hid (below_step hb1.out hb2.out)
  go_wp2_with fail
  go_ret
  exact ⟨rfl, HB.out⟩

set_option maxHeartbeats 4000000 in
set_option maxRecDepth 100000 in
theorem once_on (A : Option Addr) (c : Nat) (l : List S32) (w : World) (hr : Kd.C k32 w A l.length l) (hc : l.length ≤ c) (hwf : ∀ x ∈ l, (Lit.int .i64 x.f3).wf = true) (hf : fewB l = true) : Calls Try.prog 6 #[.slice A l.length c] w fun e w' => e = .returned (.bool true) ∧ Below w.heap.size w w' := by
  have H0 := Lib.hid (sys_nil w)
  have HR := Lib.hid hr
  have HC := Lib.hid hc
  have HF := Lib.hid hf
  have HW := Lib.hid hwf
  clear hr hc hf hwf
  go_enter Try.func6, Try.ntmps6
  go_wp2_with fail
  refine (cA _).mono ?_
  rintro e w1 ⟨rfl, hb1⟩
  have HR1 := Lib.hid (Kd.C_below HR.out hb1.out)
  go_wp2_with fail
  refine (cF A c l HC w1 HR1 HF).mono ?_
  rintro e w2 ⟨rfl, hb2⟩
  have H1 := Lib.hid (H0.out.then (below_step hb1.out hb2.out))
  clear hb1 hb2 HR1
  go_wp2_with fail
  refine (sys_new H1.out).mono ?_
  rintro e w3 ⟨f, rfl, H2⟩
  go_wp2_with fail
  refine (sys_new H2.out).mono ?_
  rintro e w3' ⟨g, rfl, H2'⟩
  go_wp2_with fail
  refine (sys_new H2'.out).mono ?_
  rintro e w3'' ⟨h, rfl, H2''⟩
  have H4 : Hid (Flow.Sys w w3'' [(f, M.none), (g, M.none), (h, M.none)]) := H2''
  clear H0 H1 H2 H2' H2''
  go_wp2_with fail
  go_loopg [8] (l.length + 1) (fun kq v w' => ∃ i : Nat, v = .int .i64 i ∧ Hid (i ≤ l.length) ∧ Hid (l.length < i + kq) ∧ Hid (Flow.Sys w w' [(f, doAll (l.take i) M.none), (g, M.none), (h, M.none)]))
  case atStart => exact ⟨0, rfl, Lib.hid (Nat.zero_le _), Lib.hid (by omega), H4⟩
  case round =>
    obtain ⟨i, rfl, HI, HK, HS⟩ := hrel
    clear H4
    have hi := HI.out
    have hall := few_all HF.out
    by_cases hlt : i < l.length
    · have d3 : decide ((i : Int) < (l.length : Int)) = true := decide_eq_true (by omega)
      have d4 : decide (i < l.length) = true := decide_eq_true hlt
      obtain ⟨x, hx⟩ : ∃ x, l[i] = x := ⟨_, rfl⟩
      have hmem : x ∈ l := hx ▸ List.getElem_mem hlt
      have hw := HW.out x hmem
      have hx1 := hall.2 x hmem
      have hsz := doAll_size (l.take i) M.none (fun y hy => hall.2 y (List.mem_of_mem_take hy))
      have hsz2 : (doAll (l.take i) M.none).size + x.f1.size ≤ 900000000 := by
        have h60 := hall.1
        simp [M.none, M.size] at hsz ⊢
        omega
      have HZ : Hid ((doAll (l.take i) M.none).size + (act x).s.size ≤ 900000000) := Lib.hid hsz2
      have HN := Lib.hid (show doAll (l.take (i + 1)) M.none = (doAll (l.take i) M.none).does (act x) by rw [take_one l i hlt, hx, doAll_snoc])
      obtain ⟨ad, rfl, c0, c1, c2, c3⟩ := act_cells (Kd.C_below HR.out HS.out.below) i hlt
      rw [hx] at c0 c1 c2 c3
      have hi60 : i ≤ 60 := by have := hall.1; omega
      clear hx hsz hsz2 hmem hx1 hall
      generalize doAll (l.take i) M.none = m1 at HS HZ HN
      cases gk with
      | zero => exact absurd HK.out (by omega)
      | succ k1 =>
        go_wp2_with fail
        refine (sys_does 0 HS rfl (act x) hw HZ).mono ?_
        rintro e w5 ⟨rfl, H5⟩
        have H8 : Hid (Flow.Sys w w5 [(f, doAll (l.take (i + 1)) M.none), (g, M.none), (h, M.none)]) := by rw [HN.out]; exact H5
        clear c0 c1 c2 c3 H5
        go_wp2_with fail
        go_roundg k1
        case measure => omega
        case rel => exact ⟨i + 1, rfl, Lib.hid (by omega), Lib.hid (by have := HK.out; omega), H8⟩
    · have d3 : decide ((i : Int) < (l.length : Int)) = false := decide_eq_false (by omega)
      have d4 : decide (i < l.length) = false := decide_eq_false hlt
      have hie : i = l.length := by omega
      subst hie
      have hsz := doAll_size l M.none hall.2
      have HZ := Lib.hid (show (doAll l M.none).size ≤ 100000 by
        have h60 := hall.1
        simp [M.none, M.size] at hsz ⊢
        omega)
      have HE := Lib.hid (again_all l again_none edge_none)
      have HS2 : Hid (Flow.Sys w wr [(f, doAll l M.none), (g, M.none), (h, M.none)]) := Lib.hid (by have := HS.out; rw [List.take_length] at this; exact this)
      clear HS hsz hall hlt HI HK
      generalize doAll l M.none = m1 at HS2 HZ HE
      go_wp2_with fail
      refine (sys_text 0 HS2 rfl).mono ?_
      rintro e w5 ⟨rfl, H5⟩
      have HL : Hid (M.none.size + (⟨m1.told.toArray⟩ : ByteArray).size ≤ 1000000000) := Lib.hid (by
        have := HZ.out
        unfold M.size at this
        show 0 + m1.told.toArray.size ≤ _
        simp
        omega)
      go_wp2_with fail
      refine (sys_put 1 H5 rfl ⟨m1.told.toArray⟩ true HL).mono ?_
      rintro e w6 ⟨rfl, H6⟩
      have H7 : Hid (Flow.Sys w w6 [(f, m1), (g, ⟨m1.told, [], 0⟩), (h, M.none)]) := by have := H6.out; rw [show (⟨m1.told.toArray⟩ : ByteArray).data.toList = m1.told by simp, HE.out] at this; exact Lib.hid this
      clear H6
      go_wp2_with fail
      refine (sys_put 2 H7 rfl ⟨m1.told.toArray⟩ false HL).mono ?_
      rintro e w7 ⟨rfl, H8⟩
      have HQ := Lib.hid (lost_put (⟨m1.told.toArray⟩ : ByteArray).data.toList lost_none)
      have HQZ := Lib.hid (put_size false (⟨m1.told.toArray⟩ : ByteArray).data.toList M.none)
      have H9 : Hid (Flow.Sys w w7 [(f, m1), (g, ⟨m1.told, [], 0⟩), (h, M.none.put false (⟨m1.told.toArray⟩ : ByteArray).data.toList)]) := H8
      clear H8 H7
      have HQL := Lib.hid (show (M.none.put false (⟨m1.told.toArray⟩ : ByteArray).data.toList).told.length ≤ 1000000 by
        have h1 := HQZ.out
        have h2 := HZ.out
        unfold M.size at h1 h2
        simp [M.none] at h1 ⊢
        omega)
      clear HQZ
      generalize M.none.put false (⟨m1.told.toArray⟩ : ByteArray).data.toList = mh at HQ H9 HQL
      go_wp2_with fail
      refine (sys_text 2 H9 rfl).mono ?_
      rintro e w8 ⟨rfl, H10⟩
      obtain ⟨S, hS⟩ : ∃ S : ByteArray, S = ⟨mh.told.toArray⟩ := ⟨_, rfl⟩
      have ES := Lib.hid (show mh.told = S.data.toList by rw [hS])
      have HSL := Lib.hid (show S.size ≤ 1000000 by have := HQL.out; rw [hS]; show mh.told.toArray.size ≤ _; simpa using this)
      rw [← hS]
      clear hS
      have HTOLD := Lib.hid (show (⟨m1.told.toArray⟩ : ByteArray).toList = m1.told by rw [ByteArray.toList_eq])
      go_wp2_with fail
      go_loopg [11] (S.size + 1) (fun kq v w' => ∃ j : Nat, v = .int .i64 j ∧ Hid (j ≤ S.size) ∧ Hid (S.size < j + kq) ∧ Hid (Flow.Sys w w' [(f, m1), (g, ⟨m1.told, [], 0⟩), (h, mh)]))
      case atStart => exact ⟨0, rfl, Lib.hid (Nat.zero_le _), Lib.hid (by omega), H10⟩
      case round =>
        clear H10 H9
        obtain ⟨j, rfl, HI, HK, HS2⟩ := hrel
        have hj := HI.out
        have hSl := HSL.out
        by_cases hlt : j < S.size
        · have d5 : decide ((j : Int) < (S.size : Int)) = true := decide_eq_true (by omega)
          have d6 : decide (j < S.size) = true := decide_eq_true hlt
          have honly := HQ.out.only
          have hap := HQ.out.apart
          rw [ES.out] at honly hap
          obtain ⟨c, hcc⟩ : ∃ c, S[j]'hlt = c := ⟨_, rfl⟩
          have hcm := honly c (by rw [← hcc]; exact byte_mem S j hlt)
          have hcj : S.data.toList[j]? = some c := by rw [← hcc]; exact byte_at S j hlt
          clear honly
          cases gk with
          | zero => exact absurd HK.out (by omega)
          | succ k1 =>
          cases hbl : isBlank c with
          | false =>
            have hc32 : c ≠ 32 := fun e => by subst e; revert hbl; decide
            have e2 : ((c.toNat : Int) == 32) = false := by
              rw [beq_eq_false_iff_ne]
              intro e
              exact hc32 (UInt8.toNat_inj.1 (by simpa using (by omega : c.toNat = 32)))
            have HBL := Lib.hid hbl
            clear hbl hcm hcj hap hc32
            by_cases hj0 : 0 < j
            · have d7 : decide ((0 : Int) < (j : Int)) = true := decide_eq_true (by omega)
              have d8 : decide (0 < j) = true := decide_eq_true hj0
              go_wp2_with fail
              refine (cB _ _ HBL).mono ?_
              rintro e w' ⟨rfl, ⟨nd, rfl⟩⟩
              have H11 := Lib.hid (Flow.Sys.drawn (w' := wr) HS2.out nd)
              go_wp2_with fail
              go_roundg k1
              case measure => omega
              case rel => exact ⟨j + 1, rfl, Lib.hid (by omega), Lib.hid (by have := HK.out; omega), H11⟩
            · have d7 : decide ((0 : Int) < (j : Int)) = false := decide_eq_false (by omega)
              have d8 : decide (0 < j) = false := decide_eq_false hj0
              go_wp2_with fail
              refine (cB _ _ HBL).mono ?_
              rintro e w' ⟨rfl, ⟨nd, rfl⟩⟩
              have H11 := Lib.hid (Flow.Sys.drawn (w' := wr) HS2.out nd)
              go_wp2_with fail
              go_roundg k1
              case measure => omega
              case rel => exact ⟨j + 1, rfl, Lib.hid (by omega), Lib.hid (by have := HK.out; omega), H11⟩
          | true =>
            have hc32 := hcm hbl
            have e1 : ((c.toNat : Int) != 32) = false := by rw [hc32]; decide
            have e2 : ((c.toNat : Int) == 32) = true := by rw [hc32]; decide
            have HBL := Lib.hid hbl
            by_cases hj0 : 0 < j
            · have d7 : decide ((0 : Int) < (j : Int)) = true := decide_eq_true (by omega)
              have d8 : decide (0 < j) = true := decide_eq_true hj0
              obtain ⟨d, hdd⟩ : ∃ d, S[j - 1]'(by omega) = d := ⟨_, rfl⟩
              have hdj : S.data.toList[j - 1]? = some d := by rw [← hdd]; exact byte_at S (j - 1) (by omega)
              have hd32 : d ≠ 32 := fun e => by
                subst e
                have := hap (j - 1) hdj
                rw [show j - 1 + 1 = j by omega, hcj, hc32] at this
                exact this rfl
              have e3 : ((d.toNat : Int) == 32) = false := by
                rw [beq_eq_false_iff_ne]
                intro e
                exact hd32 (UInt8.toNat_inj.1 (by simpa using (by omega : d.toNat = 32)))
              clear hbl hcm hcj hap hc32 hdj hd32
              go_wp2_with fail
              refine (cB _ _ HBL).mono ?_
              rintro e w' ⟨rfl, ⟨nd, rfl⟩⟩
              have H11 := Lib.hid (Flow.Sys.drawn (w' := wr) HS2.out nd)
              go_wp2_with fail
              go_roundg k1
              case measure => omega
              case rel => exact ⟨j + 1, rfl, Lib.hid (by omega), Lib.hid (by have := HK.out; omega), H11⟩
            · have d7 : decide ((0 : Int) < (j : Int)) = false := decide_eq_false (by omega)
              have d8 : decide (0 < j) = false := decide_eq_false hj0
              clear hbl hcm hcj hap hc32
              go_wp2_with fail
              refine (cB _ _ HBL).mono ?_
              rintro e w' ⟨rfl, ⟨nd, rfl⟩⟩
              have H11 := Lib.hid (Flow.Sys.drawn (w' := wr) HS2.out nd)
              go_wp2_with fail
              go_roundg k1
              case measure => omega
              case rel => exact ⟨j + 1, rfl, Lib.hid (by omega), Lib.hid (by have := HK.out; omega), H11⟩
        · have d5 : decide ((j : Int) < (S.size : Int)) = false := decide_eq_false (by omega)
          have d6 : decide (j < S.size) = false := decide_eq_false hlt
          have e4 : (m1.told == m1.told) = true := beq_self_eq_true _
          go_wp2_with fail
          refine (sys_text 1 HS2 rfl).mono ?_
          rintro e w9 ⟨rfl, H11⟩
          go_wp2_with fail
          go_ret
          exact ⟨rfl, H11.out.below⟩

theorem once_row (A : Option Addr) (len c : Nat) (w : World) (l : List S32) (hl : l.length = len) (hr : Kd.C k32 w A l.length l) (hc : len ≤ c) (hwf : ∀ x ∈ l, (Lit.int .i64 x.f3).wf = true) : Calls Try.prog 6 #[.slice A len c] w fun e w' => e = .returned (.bool true) ∧ Below w.heap.size w w' := by
  subst hl
  by_cases hf : fewB l = true
  · exact once_on A c l w hr hc hwf hf
  · exact once_off A c l w hr hc (by simpa using hf)
end Go.Proofs.Ytaejicolhliecaa.HandFlowOnce
