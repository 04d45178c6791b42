/- Words stay, and their order: with all blanks taken out, what is told is what was put, without blanks, and the byte 0: of every things that are done the law's call returns true: the walk of the law's function over the contracts of what it calls. No condition. -/
import Derived.Test.YtaejicolhliecaaHandFlowEdges
set_option linter.unusedVariables false
namespace Go.Proofs.Ytaejicolhliecaa.HandFlowWords
open Go.RowKit Go.Lib Go.Proofs.Ytaejicolhliecaa.Buf Go.Proofs.Ytaejicolhliecaa.Flow Go.Proofs.Ytaejicolhliecaa.PFl Go.Proofs.YtaejicolhliecaaW.PrintWords Go.Proofs.Ytaejicolhliecaa.HandFlowParts Go.Proofs.Ytaejicolhliecaa.HandFlowEdges

/-- A string of one byte, out of a new row. -/
theorem conv_one (W : World) (b : UInt8) : (convert 36 9 (.slice (some ⟨W.heap.size, 0, none⟩) 1 1)).run Try.prog (W.alloc (.cells #[.int .u8 b.toNat] 5)) = .ok (.string ⟨#[b]⟩) (W.alloc (.cells #[.int .u8 b.toNat] 5)) := by
  have hr : Kd.C (Kd.int .u8) (W.alloc (.cells #[.int .u8 b.toNat] 5)) (some ⟨W.heap.size, 0, none⟩) 1 [(b.toNat : Int)] := by
    refine Kd.C_of_reads (h1 := fun _ => rfl) (d := 0) ⟨rfl, by decide, fun _ => ⟨_, rfl, fun j hj => ?_⟩⟩
    have hj0 : j = 0 := by omega
    subst hj0
    have hadd : (⟨W.heap.size, 0, none⟩ : Addr).add 0 = ⟨W.heap.size, 0, none⟩ := by unfold Addr.add; split <;> simp_all
    rw [hadd, Lib.cell_of_heap (heap_alloc_new W _)]
    rfl
  rw [Kd.C_string Try.underlying36 Try.underlying5 Try.underlying9 hr]
  have : strOfNums [(b.toNat : Int)] = ⟨#[b]⟩ := by
    apply ByteArray.ext
    simp [strOfNums]
  rw [this]

theorem byte_slice (T : ByteArray) (j : Nat) (h : j < T.size) : (T.extract j (j + 1)).data.toList = [T[j]'h] := by
  have hl : j < T.data.toList.length := by simpa using h
  simp only [ByteArray.data_extract, Array.toList_extract, List.extract_eq_take_drop]
  rw [List.drop_eq_getElem_cons hl]
  simp
  rfl

theorem slice_one (T : ByteArray) (j : Nat) (h : j < T.size) (hs : T.size ≤ 100000) (W : World) : (Instr.slice 9 (.string T) (some (.int .i64 j)) (some (.int .i64 (j + 1))) none).run Try.prog W = .ok (.string (T.extract j (j + 1))) W := by
  have h1 : (0 : Int) ≤ (j : Int) := by omega
  have h2 : (0 : Int) ≤ (j : Int) + 1 := by omega
  have h3 : (j : Int) ≤ (j : Int) + 1 := by omega
  have h4 : (j : Int) + 1 ≤ (T.size : Int) := by omega
  have h5 : ((j : Int) + 1).toNat = j + 1 := by omega
  simp [Instr.slice, run_underlying Try.underlying9, Instr.sliceBounds, run_sliceBound, sliced, h1, h2, h3, h4, h5]

/-- What is no blank. -/
def bare (l : List UInt8) : List UInt8 := l.filter fun c => !isBlank c
/-- What is to be told of a text. -/
def words (l : List UInt8) : List UInt8 := l.filter fun c => c != 0 && !isBlank c
/-- .. of a thing that is done. -/
def wordsOf (x : S32) : List UInt8 := if x.f0 = 0 then words x.f1.data.toList else []
theorem bare_app (a b : List UInt8) : bare (a ++ b) = bare a ++ bare b := by simp [bare]
theorem bare_tens (n : Nat) : bare (List.replicate n 10) = [] := by
  unfold bare
  rw [List.filter_eq_nil_iff]
  intro c hc
  rw [List.eq_of_mem_replicate hc]
  decide
theorem bare_blanks (bl : List UInt8) (h : ∀ c ∈ bl, c ≠ 0 ∧ c ≠ 10 ∧ c ≠ 13 ∧ isBlank c = true) : bare bl = [] := by
  unfold bare
  rw [List.filter_eq_nil_iff]
  intro c hc
  rw [(h c hc).2.2.2]
  decide
theorem bare_put1 {m : M} (he : HandFlowEdges.Edge m) (k : Bool) (c : UInt8) : bare (m.put1 k c).told = bare m.told ++ words [c] := by
  unfold M.put1
  by_cases h0 : c = 0
  · rw [if_pos h0, h0]
    simp [words]
  · rw [if_neg h0]
    cases hb : isBlank c with
    | true =>
      rw [if_pos rfl]
      have hw : words [c] = [] := by simp [words, hb]
      rw [hw, List.append_nil]
      split
      · unfold M.keep
        split <;> rfl
      · unfold M.lose
        split <;> rfl
    | false =>
      rw [if_neg (by simp)]
      have hw : words [c] = [c] := by simp [words, hb, h0]
      rw [hw]
      have hc : bare [c] = [c] := by simp [bare, hb]
      unfold M.word
      simp only
      rw [bare_app, hc]
      congr 1
      split
      · rename_i ht
        rw [ht]
      · rw [bare_app, bare_app, bare_tens, bare_blanks _ he.blanks]
        simp
theorem words_cons (c : UInt8) (s : List UInt8) : words (c :: s) = words [c] ++ words s := by
  unfold words
  rw [← List.filter_append]
  rfl
theorem bare_put (k : Bool) : ∀ (s : List UInt8) {m : M}, HandFlowEdges.Edge m → bare (m.put k s).told = bare m.told ++ words s
  | [], m, _ => by simp [M.put, words]
  | c :: s, m, he => by
    have h1 := bare_put k s (edge_put1 he k c)
    have h2 := bare_put1 he k c
    have : m.put k (c :: s) = (m.put1 k c).put k s := rfl
    rw [this, h1, h2, words_cons c s, List.append_assoc]
theorem bare_does {m : M} (he : HandFlowEdges.Edge m) (x : S32) : bare (m.does (act x)).told = bare m.told ++ wordsOf x := by
  unfold M.does wordsOf
  show bare (if x.f0 = 0 then m.put x.f2 x.f1.data.toList else if x.f0 = 1 then m.brk x.f3 else if x.f0 = 2 then m.line else m).told = _
  split
  · exact bare_put _ _ he
  · rw [List.append_nil]
    split
    · rfl
    · split <;> rfl
def wordsAll (l : List S32) : List UInt8 := l.flatMap wordsOf
theorem wordsAll_snoc (l : List S32) (x : S32) : wordsAll (l ++ [x]) = wordsAll l ++ wordsOf x := by simp [wordsAll]
theorem bare_all : ∀ (l : List S32) {m : M}, HandFlowEdges.Edge m → bare (doAll l m).told = bare m.told ++ wordsAll l
  | [], m, _ => by simp [doAll, wordsAll]
  | x :: l, m, he => by
    have h1 := bare_all l (edge_does he (act x))
    have h2 := bare_does he x
    have : doAll (x :: l) m = doAll l (m.does (act x)) := rfl
    rw [this, h1, h2, List.append_assoc]
    rfl
theorem words_len (l : List UInt8) : (words l).length ≤ l.length := List.length_filter_le _ _
theorem wordsOf_len (x : S32) : (wordsOf x).length ≤ x.f1.size := by
  unfold wordsOf
  split
  · have := words_len x.f1.data.toList
    simpa using this
  · simp
theorem wordsAll_len : ∀ (l : List S32), (∀ x ∈ l, x.f1.size ≤ 100) → (wordsAll l).length ≤ 100 * l.length
  | [], _ => by simp [wordsAll]
  | x :: l, h => by
    have h1 := wordsAll_len l (fun y hy => h y (List.mem_cons_of_mem _ hy))
    have h2 := wordsOf_len x
    have h3 := h x List.mem_cons_self
    simp only [wordsAll, List.flatMap_cons, List.length_append, List.length_cons] at h1 ⊢
    omega

set_option maxHeartbeats 4000000 in
set_option maxRecDepth 100000 in
theorem words_off (A : Option Addr) (c : Nat) (l : List S32) (w : World) (hr : Kd.C k32 w A l.length l) (hc : l.length ≤ c) (hf : fewB l = false) : Calls Try.prog 5 #[.slice A l.length c] w fun e w' => e = .returned (.bool true) ∧ Below w.heap.size w w' := by
  have HR := Lib.hid hr
  have HC := Lib.hid hc
  have HF := Lib.hid hf
  clear hr hc hf
  go_enter Try.func5, Try.ntmps5
  go_wp2_with fail
  refine (cA _).mono ?_
  rintro e w1 ⟨rfl, hb1⟩
  have HR1 := Lib.hid (Kd.C_below HR.out hb1.out)
  go_wp2_with fail
  refine (cF A c l HC w1 HR1 HF).mono ?_
  rintro e w2 ⟨rfl, hb2⟩
  have HB := Lib.hid (below_step hb1.out hb2.out)
  go_wp2_with fail
  go_ret
  exact ⟨rfl, HB.out⟩

set_option maxHeartbeats 4000000 in
set_option maxRecDepth 100000 in
theorem words_on (A : Option Addr) (c : Nat) (l : List S32) (w : World) (hr : Kd.C k32 w A l.length l) (hc : l.length ≤ c) (hwf : ∀ x ∈ l, (Lit.int .i64 x.f3).wf = true) (hf : fewB l = true) : Calls Try.prog 5 #[.slice A l.length c] w fun e w' => e = .returned (.bool true) ∧ Below w.heap.size w w' := by
  have H0 := Lib.hid (sys_nil w)
  have HR := Lib.hid hr
  have HC := Lib.hid hc
  have HF := Lib.hid hf
  have HW := Lib.hid hwf
  clear hr hc hf hwf
  go_enter Try.func5, Try.ntmps5
  go_wp2_with fail
  refine (cA _).mono ?_
  rintro e w1 ⟨rfl, hb1⟩
  have HR1 := Lib.hid (Kd.C_below HR.out hb1.out)
  go_wp2_with fail
  refine (cF A c l HC w1 HR1 HF).mono ?_
  rintro e w2 ⟨rfl, hb2⟩
  have H1 := Lib.hid (H0.out.then (below_step hb1.out hb2.out))
  clear hb1 hb2 HR1
  go_wp2_with fail
  refine (sys_new H1.out).mono ?_
  rintro e w3 ⟨f, rfl, H2⟩
  have H4 : Hid (Flow.Sys w w3 [(f, M.none)]) := H2
  clear H0 H1 H2
  go_wp2_with fail
  go_loopg [6, 7] (l.length + 1) (fun kq v6 v7 w' => ∃ (S : ByteArray) (i : Nat), v6 = .string S ∧ v7 = .int .i64 i ∧ Hid (S.data.toList = wordsAll (l.take i)) ∧ Hid (i ≤ l.length) ∧ Hid (l.length < i + kq) ∧ Hid (Flow.Sys w w' [(f, doAll (l.take i) M.none)]))
  case atStart => exact ⟨_, 0, rfl, rfl, Lib.hid rfl, Lib.hid (Nat.zero_le _), Lib.hid (by omega), H4⟩
  case round =>
    obtain ⟨S, i, rfl, rfl, HSS, HI, HK, HS⟩ := hrel
    clear H4
    have hi := HI.out
    have hall := few_all HF.out
    by_cases hlt : i < l.length
    · have d3 : decide ((i : Int) < (l.length : Int)) = true := decide_eq_true (by omega)
      have d4 : decide (i < l.length) = true := decide_eq_true hlt
      obtain ⟨x, hx⟩ : ∃ x, l[i] = x := ⟨_, rfl⟩
      have hmem : x ∈ l := hx ▸ List.getElem_mem hlt
      have hw := HW.out x hmem
      have hx1 := hall.2 x hmem
      have hsz := doAll_size (l.take i) M.none (fun y hy => hall.2 y (List.mem_of_mem_take hy))
      have hsz2 : (doAll (l.take i) M.none).size + x.f1.size ≤ 900000000 := by
        have h60 := hall.1
        simp [M.none, M.size] at hsz ⊢
        omega
      have HZ : Hid ((doAll (l.take i) M.none).size + (act x).s.size ≤ 900000000) := Lib.hid hsz2
      have HN := Lib.hid (show doAll (l.take (i + 1)) M.none = (doAll (l.take i) M.none).does (act x) by rw [take_one l i hlt, hx, doAll_snoc])
      have HWN := Lib.hid (show wordsAll (l.take (i + 1)) = wordsAll (l.take i) ++ wordsOf x by rw [take_one l i hlt, hx, wordsAll_snoc])
      have HWL := Lib.hid (show (wordsAll (l.take i)).length ≤ 6000 by
        have h1 := wordsAll_len (l.take i) (fun y hy => hall.2 y (List.mem_of_mem_take hy))
        have h60 := hall.1
        simp at h1
        omega)
      obtain ⟨ad, rfl, c0, c1, c2, c3⟩ := act_cells (Kd.C_below HR.out HS.out.below) i hlt
      rw [hx] at c0 c1 c2 c3
      have hi60 : i ≤ 60 := by have := hall.1; omega
      have HX := Lib.hid hx
      clear hx hsz hsz2 hmem hall
      generalize doAll (l.take i) M.none = m1 at HS HZ HN
      cases gk with
      | zero => exact absurd HK.out (by omega)
      | succ k1 =>
        go_wp2_with fail
        refine (sys_does 0 HS rfl (act x) hw HZ).mono ?_
        rintro e w5 ⟨rfl, H5⟩
        have H8 : Hid (Flow.Sys w w5 [(f, doAll (l.take (i + 1)) M.none)]) := by rw [HN.out]; exact H5
        clear c0 c1 c2 c3 H5
        obtain ⟨m2, hm2⟩ : ∃ m2, doAll (l.take (i + 1)) M.none = m2 := ⟨_, rfl⟩
        have HM2 := Lib.hid hm2
        rw [hm2] at H8
        clear hm2 HN
        obtain ⟨ad2, e2, c0, c1, c2, c3⟩ := act_cells (Kd.C_below HR.out H8.out.below) i hlt
        obtain rfl := Option.some.inj e2
        rw [HX.out] at c0 c1 c2 c3
        clear c2 c3 e2 HS
        by_cases hk0 : x.f0 = 0
        · have k0 : (x.f0 != 0) = false := by rw [hk0]; rfl
          have HWO := Lib.hid (show wordsOf x = words x.f1.data.toList by unfold wordsOf; rw [if_pos hk0])
          clear hk0 c1
          go_wp2_with fail
          go_loopg [6, 8] (x.f1.size + 1) (fun kq v6 v8 w' => ∃ (S2 : ByteArray) (k : Nat), v6 = .string S2 ∧ v8 = .int .i64 k ∧ Hid (S2.data.toList = wordsAll (l.take i) ++ words (x.f1.data.toList.take k)) ∧ Hid (k ≤ x.f1.size) ∧ Hid (x.f1.size < k + kq) ∧ Hid (Flow.Sys w w' [(f, m2)]))
          case atStart => exact ⟨S, 0, rfl, rfl, Lib.hid (by rw [HSS.out]; simp [words]), Lib.hid (Nat.zero_le _), Lib.hid (by omega), H8⟩
          case round =>
            clear H8
            obtain ⟨S2, k, rfl, rfl, HSS2, HI2, HK2, HS2⟩ := hrel
            have hk := HI2.out
            obtain ⟨ad2, e2, c0, c1, _, _⟩ := act_cells (Kd.C_below HR.out HS2.out.below) i hlt
            obtain rfl := Option.some.inj e2
            rw [HX.out] at c0 c1
            clear c0 e2
            by_cases hlt2 : k < x.f1.size
            · have d5 : decide ((k : Int) < (x.f1.size : Int)) = true := decide_eq_true (by omega)
              have d6 : decide (k < x.f1.size) = true := decide_eq_true hlt2
              obtain ⟨b, hbb⟩ : ∃ b, x.f1[k]'hlt2 = b := ⟨_, rfl⟩
              have HTK := Lib.hid (show words (x.f1.data.toList.take (k + 1)) = words (x.f1.data.toList.take k) ++ words [b] by rw [take_snoc x.f1 k hlt2, hbb]; unfold words; rw [List.filter_append])
              cases gk with
              | zero => exact absurd HK2.out (by omega)
              | succ k2 =>
                by_cases hz : b = 0
                · have z1 : ((b.toNat : Int) != 0) = false := by rw [hz]; rfl
                  have hwb : words [b] = [] := by rw [hz]; rfl
                  clear hz
                  go_wp2_with fail
                  go_roundg k2
                  case measure => omega
                  case rel => exact ⟨S2, k + 1, rfl, rfl, Lib.hid (by rw [HSS2.out, HTK.out, hwb, List.append_nil]), Lib.hid (by omega), Lib.hid (by have := HK2.out; omega), HS2⟩
                · have z1 : ((b.toNat : Int) != 0) = true := by
                    rw [bne_iff_ne]
                    intro e
                    exact hz (UInt8.toNat_inj.1 (by simpa using (by omega : b.toNat = 0)))
                  cases hbl : isBlank b with
                  | true =>
                    have hwb : words [b] = [] := by simp [words, hbl]
                    have HBL := Lib.hid hbl
                    clear hz hbl
                    go_wp2_with fail
                    refine (cB _ _ HBL).mono ?_
                    rintro e w' ⟨rfl, ⟨nd, rfl⟩⟩
                    have H11 := Lib.hid (Flow.Sys.drawn (w' := wr) HS2.out nd)
                    go_wp2_with fail
                    go_roundg k2
                    case measure => omega
                    case rel => exact ⟨S2, k + 1, rfl, rfl, Lib.hid (by rw [HSS2.out, HTK.out, hwb, List.append_nil]), Lib.hid (by omega), Lib.hid (by have := HK2.out; omega), H11⟩
                  | false =>
                    have hwb : words [b] = [b] := by simp [words, hbl, hz]
                    have HBL := Lib.hid hbl
                    have hlen2 : S2.size ≤ 7000 := by
                      have h1 := HSS2.out
                      have h2 := congrArg List.length h1
                      have h3 := words_len (x.f1.data.toList.take k)
                      have h4 := HWL.out
                      simp at h2 h3
                      omega
                    have s1 : (S2.size + 1 ≤ 9223372036854775807) = True := eq_true (by omega)
                    have s2 : decide (S2.size + 1 ≤ 9223372036854775807) = true := decide_eq_true (by omega)
                    have s3 : (9223372036854775807 < S2.size + 1) = False := eq_false (by omega)
                    clear hz hbl hlen2
                    go_wp2_with fail
                    refine (cB _ _ HBL).mono ?_
                    rintro e w' ⟨rfl, ⟨nd, rfl⟩⟩
                    have hcv : (convert 36 9 (.slice (some ⟨wr.heap.size, 0, none⟩) 1 1)).run Try.prog ((wr.drewN nd).alloc (.cells #[.int .u8 b.toNat] 5)) = .ok (.string ⟨#[b]⟩) ((wr.drewN nd).alloc (.cells #[.int .u8 b.toNat] 5)) := conv_one (wr.drewN nd) b
                    have H11 := Lib.hid ((Flow.Sys.drawn (w' := wr) HS2.out nd).then ((Below.refl (wr.drewN nd).heap.size (wr.drewN nd)).alloc (Nat.le_refl _) (.cells #[.int .u8 b.toNat] 5)))
                    have HNS := Lib.hid (show (S2 ++ (⟨#[b]⟩ : ByteArray)).data.toList = wordsAll (l.take i) ++ words (x.f1.data.toList.take (k + 1)) by rw [HTK.out, hwb, ByteArray.data_append, Array.toList_append, HSS2.out, List.append_assoc])
                    go_wp2_with fail
                    go_roundg k2
                    case measure => omega
                    case rel => exact ⟨_, k + 1, rfl, rfl, HNS, Lib.hid (by omega), Lib.hid (by have := HK2.out; omega), H11⟩
            · have d5 : decide ((k : Int) < (x.f1.size : Int)) = false := decide_eq_false (by omega)
              have d6 : decide (k < x.f1.size) = false := decide_eq_false hlt2
              have hke : k = x.f1.data.toList.length := by simp; omega
              have HNS := Lib.hid (show S2.data.toList = wordsAll (l.take (i + 1)) by rw [HSS2.out, hke, List.take_length, HWN.out, HWO.out])
              clear hke
              go_wp2_with fail
              go_roundg k1
              case measure => omega
              case rel => exact ⟨S2, i + 1, rfl, rfl, HNS, Lib.hid (by omega), Lib.hid (by have := HK.out; omega), Lib.hid (by rw [HM2.out]; exact HS2.out)⟩
        · have k0 : (x.f0 != 0) = true := bne_iff_ne.2 hk0
          have HWO := Lib.hid (show wordsOf x = [] by unfold wordsOf; rw [if_neg hk0])
          clear hk0
          go_wp2_with fail
          go_roundg k1
          case measure => omega
          case rel => exact ⟨S, i + 1, rfl, rfl, Lib.hid (by rw [HSS.out, HWN.out, HWO.out, List.append_nil]), Lib.hid (by omega), Lib.hid (by have := HK.out; omega), Lib.hid (by rw [HM2.out]; exact H8.out)⟩
    · have d3 : decide ((i : Int) < (l.length : Int)) = false := decide_eq_false (by omega)
      have d4 : decide (i < l.length) = false := decide_eq_false hlt
      have hie : i = l.length := by omega
      subst hie
      have hsz := doAll_size l M.none hall.2
      have HZ := Lib.hid (show (doAll l M.none).size ≤ 100000 by
        have h60 := hall.1
        simp [M.none, M.size] at hsz ⊢
        omega)
      have HE := Lib.hid (bare_all l edge_none)
      have HS2 : Hid (Flow.Sys w wr [(f, doAll l M.none)]) := Lib.hid (by have := HS.out; rw [List.take_length] at this; exact this)
      have HST := Lib.hid (show S.data.toList = wordsAll l by have := HSS.out; rw [List.take_length] at this; exact this)
      clear HS HSS hsz hall hlt HI HK
      generalize doAll l M.none = m1 at HS2 HZ HE
      go_wp2_with fail
      refine (sys_text 0 HS2 rfl).mono ?_
      rintro e w5 ⟨rfl, H5⟩
      have HL := Lib.hid (show (⟨m1.told.toArray⟩ : ByteArray).size ≤ 100000 by
        have := HZ.out
        unfold M.size at this
        show m1.told.toArray.size ≤ _
        simp
        omega)
      obtain ⟨T, hT⟩ : ∃ T : ByteArray, T = ⟨m1.told.toArray⟩ := ⟨_, rfl⟩
      have ES := Lib.hid (show m1.told = T.data.toList by rw [hT])
      rw [← hT] at HL ⊢
      clear hT
      go_wp2_with fail
      go_loopg [11, 12] (T.size + 1) (fun kq v11 v12 w' => ∃ (G : ByteArray) (j : Nat), v11 = .string G ∧ v12 = .int .i64 j ∧ Hid (G.data.toList = bare (T.data.toList.take j)) ∧ Hid (j ≤ T.size) ∧ Hid (T.size < j + kq) ∧ Hid (Flow.Sys w w' [(f, m1)]))
      case atStart => exact ⟨_, 0, rfl, rfl, Lib.hid rfl, Lib.hid (Nat.zero_le _), Lib.hid (by omega), H5⟩
      case round =>
        clear H5
        obtain ⟨G, j, rfl, rfl, HG, HI, HK, HS3⟩ := hrel
        have hj := HI.out
        have hTl := HL.out
        by_cases hlt : j < T.size
        · have d5 : decide ((j : Int) < (T.size : Int)) = true := decide_eq_true (by omega)
          have d6 : decide (j < T.size) = true := decide_eq_true hlt
          obtain ⟨b, hbb⟩ : ∃ b, T[j]'hlt = b := ⟨_, rfl⟩
          have HTK := Lib.hid (show bare (T.data.toList.take (j + 1)) = bare (T.data.toList.take j) ++ bare [b] by rw [take_snoc T j hlt, hbb, bare_app])
          cases gk with
          | zero => exact absurd HK.out (by omega)
          | succ k1 =>
            cases hbl : isBlank b with
            | true =>
              have hwb : bare [b] = [] := by simp [bare, hbl]
              have HBL := Lib.hid hbl
              clear hbl
              go_wp2_with fail
              refine (cB _ _ HBL).mono ?_
              rintro e w' ⟨rfl, ⟨nd, rfl⟩⟩
              have H11 := Lib.hid (Flow.Sys.drawn (w' := wr) HS3.out nd)
              go_wp2_with fail
              go_roundg k1
              case measure => omega
              case rel => exact ⟨G, j + 1, rfl, rfl, Lib.hid (by rw [HG.out, HTK.out, hwb, List.append_nil]), Lib.hid (by omega), Lib.hid (by have := HK.out; omega), H11⟩
            | false =>
              have hwb : bare [b] = [b] := by simp [bare, hbl]
              have HBL := Lib.hid hbl
              have hlenG : G.size ≤ 100000 := by
                have h1 := congrArg List.length HG.out
                have h2 : (bare (T.data.toList.take j)).length ≤ (T.data.toList.take j).length := List.length_filter_le _ _
                simp at h1 h2
                omega
              have b1 : decide ((j : Int) ≤ (j : Int) + 1) = true := decide_eq_true (by omega)
              have b2 : decide ((j : Int) + 1 ≤ (T.size : Int)) = true := decide_eq_true (by omega)
              have HEX := Lib.hid (show (T.extract j (j + 1)).data.toList = [b] by
                rw [← hbb]
                exact byte_slice T j hlt)
              have hez : (T.extract j (j + 1)).size = 1 := by simp; omega
              have hsl : ∀ W : World, (Instr.slice 9 (.string T) (some (.int .i64 j)) (some (.int .i64 (j + 1))) none).run Try.prog W = .ok (.string (T.extract j (j + 1))) W := fun W => by
                exact slice_one T j hlt (by omega) W
              clear hbl
              go_wp2_with fail
              refine (cB _ _ HBL).mono ?_
              rintro e w' ⟨rfl, ⟨nd, rfl⟩⟩
              have H11 := Lib.hid (Flow.Sys.drawn (w' := wr) HS3.out nd)
              have s1 : (G.size + 1 ≤ 9223372036854775807) = True := eq_true (by omega)
              have s2 : decide (G.size + 1 ≤ 9223372036854775807) = true := decide_eq_true (by omega)
              have s3 : (9223372036854775807 < G.size + 1) = False := eq_false (by omega)
              go_wp2_with fail
              go_roundg k1
              case measure => omega
              case rel => exact ⟨_, j + 1, rfl, rfl, Lib.hid (by rw [ByteArray.data_append, Array.toList_append, HG.out, HEX.out, HTK.out, hwb]), Lib.hid (by omega), Lib.hid (by have := HK.out; omega), H11⟩
        · have d5 : decide ((j : Int) < (T.size : Int)) = false := decide_eq_false (by omega)
          have d6 : decide (j < T.size) = false := decide_eq_false hlt
          have hje : j = T.data.toList.length := by simp; omega
          have hgs : G.data.toList = S.data.toList := by
            have h1 := HE.out
            rw [show bare M.none.told = [] from rfl, List.nil_append, ES.out] at h1
            rw [HG.out, hje, List.take_length, h1, HST.out]
          have hGS : (G.toList == S.toList) = true := by rw [ByteArray.toList_eq, ByteArray.toList_eq, hgs]; exact beq_self_eq_true _
          clear hje hgs
          go_wp2_with fail
          go_ret
          exact ⟨rfl, HS3.out.below⟩

theorem words_row (A : Option Addr) (len c : Nat) (w : World) (l : List S32) (hl : l.length = len) (hr : Kd.C k32 w A l.length l) (hc : len ≤ c) (hwf : ∀ x ∈ l, (Lit.int .i64 x.f3).wf = true) : Calls Try.prog 5 #[.slice A len c] w fun e w' => e = .returned (.bool true) ∧ Below w.heap.size w w' := by
  subst hl
  by_cases hf : fewB l = true
  · exact words_on A c l w hr hc hwf hf
  · exact words_off A c l w hr hc (by simpa using hf)
end Go.Proofs.Ytaejicolhliecaa.HandFlowWords
