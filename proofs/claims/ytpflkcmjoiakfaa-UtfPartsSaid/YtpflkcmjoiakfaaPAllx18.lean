-- written by a program of ours, after the kit's print, for this claim (see the notes: handprint)
import Derived.Test.YtpflkcmjoiakfaaPAllx0
import Derived.Test.YtpflkcmjoiakfaaPAllx13
import Derived.Test.YtpflkcmjoiakfaaHand
namespace Go.Proofs.Ytpflkcmjoiakfaa.PAll
open Go.RowKit Go.Proofs.YtpflkcmjoiakfaaW.PrintWords Go.Proofs.YtpflkcmjoiakfaaW.PrintLast Go.Proofs.YtpflkcmjoiakfaaW.PrintMore
attribute [local go_sem] max2_int min2_int max_two min_two max_three min_three max_four min_four   -- for this text's walks alone
set_option linter.unusedVariables false
set_option linter.unusedSimpArgs false

/-! ### flaillaw01_UtfParts: function 7 -/
def flaillaw01_UtfParts.j0 : Nat → List Int → List Int → Int → Bool → Bool → Option (Bool)
  | 0, _, _, _, _, _ => none
  | k + 1, x0, x1, x2, x7, x19 => if x19 = true then (some x7) else ((some (([] : List Int) : List Int)).bind fun y191 => (if y191.length + x0.length < 140737488355328 then ((some (y191 ++ x0 : List Int)).bind fun y194 => (if y194.length < 140737488355328 then ((some (y194 ++ [Int.tmod x2 128] : List Int)).bind fun y197 => (if y197.length + x1.length < 140737488355328 then ((some (y197 ++ x1 : List Int)).bind fun y200 => ((some (([Int.tmod x2 128] : List Int) : List Int)).bind fun y203 => (if y203.length + x1.length < 140737488355328 then (if x7 = true then ((utf_Decode.f y200).bind fun t209 => ((utf_Decode.f x0).bind fun t210 => ((utf_Decode.f (y203 ++ x1)).bind fun t211 => (if t210.size + t211.size ≤ 9223372036854775807 then (if t209.toList = (t210 ++ t211).toList then ((utf_Right.f (strOfNums y200)).bind fun t212 => ((utf_Right.f (strOfNums x0)).bind fun t213 => (if t213 = true then ((utf_Right.f (strOfNums x1)).bind fun t214 => (some (t212 == t214))) else (some (t212 == false))))) else (some false)) else (none))))) else (some false)) else (none)))) else (none))) else (none))) else (none)))
def flaillaw01_UtfParts.f (k : Nat) (l0 : List Int) (l1 : List Int) (a2 : Int) : Option (Bool) := (flaillaw01_awake.f).bind fun t190 => (if (l0.length : Int) > 300 then (flaillaw01_UtfParts.j0 k l0 l1 a2 t190 true) else (flaillaw01_UtfParts.j0 k l0 l1 a2 t190 (decide ((l1.length : Int) > 300))))
theorem flaillaw01_UtfParts.mono_l : ∀ k, (∀ y0 y1 y2 y3 y4, LeO (flaillaw01_UtfParts.j0 k y0 y1 y2 y3 y4) (flaillaw01_UtfParts.j0 (k + 1) y0 y1 y2 y3 y4))
  | 0 => fun _ _ _ _ _ r h => by simp [flaillaw01_UtfParts.j0] at h
  | k + 1 => by
    have ih0 := flaillaw01_UtfParts.mono_l k
    · intro y0 y1 y2 y3 y4
      unfold flaillaw01_UtfParts.j0
      repeat' first
      | (with_reducible exact ih0 _ _ _ _ _)
      | (with_reducible exact LeO.refl _)
      | (with_reducible exact LeO.none _)
      | (with_reducible refine LeO.ite ?_ ?_)
      | (with_reducible refine LeO.bind ?_ (fun _ => ?_))
      | exact ih0 _ _ _ _ _
      | exact LeO.none _
      | refine LeO.ite ?_ ?_
      | refine LeO.bind ?_ (fun _ => ?_)
theorem flaillaw01_UtfParts.mono : ∀ a0 a1 a2 k, LeO (flaillaw01_UtfParts.f k a0 a1 a2) (flaillaw01_UtfParts.f (k + 1) a0 a1 a2) := by
  intro a0 a1 a2 k
  have ih0 := flaillaw01_UtfParts.mono_l k
  unfold flaillaw01_UtfParts.f
  repeat' first
      | (with_reducible exact ih0 _ _ _ _ _)
      | (with_reducible exact LeO.refl _)
      | (with_reducible exact LeO.none _)
      | (with_reducible refine LeO.ite ?_ ?_)
      | (with_reducible refine LeO.bind ?_ (fun _ => ?_))
      | exact ih0 _ _ _ _ _
      | exact LeO.none _
      | refine LeO.ite ?_ ?_
      | refine LeO.bind ?_ (fun _ => ?_)
def flaillaw01_UtfParts.T7 : Bool × List (List Nat × List Nat) := (true, [([], []), ([0], [0]), ([1], [1]), ([2, 1, 1], [1, 2]), ([1], [1]), ([4, 3, 1], [1, 4]), ([1], [1]), ([6, 5, 1], [1, 6]), ([5, 7, 1], [1, 5, 7]), ([3, 8, 1], [1, 3, 8]), ([1, 9], [1, 9]), ([10, 7], [10]), ([11], [11]), ([12, 11], [11, 12]), ([13, 11, 11], [11, 13]), ([11], [11]), ([15, 11], [11, 15]), ([16, 14, 11], [11, 16]), ([17, 17, 11], [11, 17]), ([18], [18]), ([19, 18], [18, 19]), ([20, 18, 18], [18, 20]), ([18, 21, 11], [11, 18, 21]), ([14, 22, 11], [11, 14, 22]), ([11, 23], [11, 23]), ([24, 21, 0, 1, 2, 3, 4, 5, 6, 7, 8, 9, 10, 11, 12, 13, 14, 15, 16, 17, 18, 19, 20, 21, 22, 23, 24], [24])])
def flaillaw01_UtfParts.B7 : List Nat := [0, 1, 3, 7, 3, 31, 3, 127, 255, 511, 1023, 2047, 4095, 8191, 16383, 4095, 36863, 131071, 262143, 524287, 1048575, 2097151, 4194303, 8388607, 16777215, 33554431]
theorem flaillaw01_UtfParts.tab7 : rtab .any (opsOf Try.f7 7) = flaillaw01_UtfParts.T7 := by kernel_rfl
theorem flaillaw01_UtfParts.bits7 : waitsOk flaillaw01_UtfParts.T7.2 flaillaw01_UtfParts.B7 = true := by kernel_rfl
set_option maxHeartbeats 8000000 in
set_option maxRecDepth 100000 in
theorem flaillaw01_UtfParts.calls (k : Nat) (A0 : Option Addr) (c0 : Nat) (l0 : List Int) (A1 : Option Addr) (c1 : Nat) (l1 : List Int) (a2 : Int) (r : Bool) (w : World) (hr0 : Kd.C (Kd.int .u8) w A0 l0.length l0) (hc0 : l0.length ≤ c0) (hr1 : Kd.C (Kd.int .u8) w A1 l1.length l1) (hc1 : l1.length ≤ c1) (h : flaillaw01_UtfParts.f k l0 l1 a2 = some r) :
    Calls Try.prog 7 #[.slice A0 l0.length c0, .slice A1 l1.length c1, .int .u8 a2] w fun e w' => e = .returned (.bool r) ∧ Below w.heap.size w w' := by
  have HR0 := Aside0.mk hr0
  have HC0 := Aside0.mk hc0
  clear hr0 hc0
  have HR1 := Aside0.mk hr1
  have HC1 := Aside0.mk hc1
  clear hr1 hc1
  have HB := Aside0.mk (Below.refl w.heap.size w)
  have H : ((flaillaw01_awake.f).bind fun t190 => (if (l0.length : Int) > 300 then (flaillaw01_UtfParts.j0 k l0 l1 a2 t190 true) else (flaillaw01_UtfParts.j0 k l0 l1 a2 t190 (decide ((l1.length : Int) > 300))))) = some r := h
  clear h
  replace H := Option.bind_eq_some_iff.mp H
  obtain ⟨t190, A40, H⟩ := H
  replace H : (if (l0.length : Int) > 300 then (flaillaw01_UtfParts.j0 k l0 l1 a2 t190 true) else (flaillaw01_UtfParts.j0 k l0 l1 a2 t190 (decide ((l1.length : Int) > 300)))) = some r := H
  have A4 := Aside0.mk A40
  clear A40
  have HC5 := Aside0.mk H
  clear H
  go_enter Try.func7, Try.ntmps7
  go_upto_region 2 with (first | ((with_reducible refine gate_callee (f := 10) rfl ?_); refine goesL_ (some 11) rfl rfl Try.func10 (by kernel_rfl) rfl #[] rfl (by (try simp only [List.map_toArray, List.map_cons, List.map_nil]); first | done | rfl | (simp only [List.length_drop, List.length_take]; rfl)) ?_; (with_reducible refine (flaillaw01_awake.calls  t190 _ A4.out).mono ?_); rintro e w6 ⟨rfl, hb⟩; refine ⟨_, rfl, ?_⟩; have n0_ := Aside0.mk (below_step (by repeat (first | (with_reducible first | exact HB.out | apply below_alloc | apply pw_below_drewN | apply below_drew1) | exact HB.out)) hb); clear HB; have HB := n0_; clear n0_; (try clear hb); (try clear hb2); (try clear hk); (try clear hi)))
  (try simp only [Act.put, List.setIfInBounds_toArray, List.set_cons_zero, List.set_cons_succ])
  go_cut [19] (fun v19 wc => ∃ (kq : Nat) (x19_4 : Bool), v19 = .bool x19_4 ∧ Aside0 (flaillaw01_UtfParts.j0 kq l0 l1 a2 t190 x19_4 = some r) ∧ Aside0 (kq ≤ k) ∧ Aside0 (Below w.heap.size w wc))
  case first =>
    have H := HC5.out
    clear HC5
    by_cases c7 : (l0.length : Int) > 300
    · rw [if_pos c7] at H
      have c7b0 : decide (300 < (l0.length : Int)) = true := decide_eq_true c7
      have c7b1 : decide (300 < l0.length) = true := decide_eq_true (by omega)
      clear c7
      (first | rw [c7b0] | (simp only [i64_w, i32_w]; rw [c7b0]) | skip)
      have H' := Aside0.mk H
      clear H
      go_wp2
      go_meet
      case rel => exact ⟨_, (true), (by first | rfl | (simp; done) | (simp [*]; done)), H', ⟨by first | omega | exact Nat.le_refl _⟩, ⟨by repeat (first | (with_reducible first | exact HB.out | apply below_alloc | apply pw_below_drewN | apply below_drew1) | exact HB.out)⟩⟩
    · rw [if_neg c7] at H
      have c7b0 : decide (300 < (l0.length : Int)) = false := decide_eq_false c7
      have c7b1 : decide (300 < l0.length) = false := decide_eq_false (by omega)
      clear c7
      (first | rw [c7b0] | (simp only [i64_w, i32_w]; rw [c7b0]) | skip)
      have H' := Aside0.mk H
      clear H
      go_wp2
      go_meet
      case rel => exact ⟨_, (decide ((l1.length : Int) > 300)), (by first | rfl | (simp; done) | (simp [*]; done)), H', ⟨by first | omega | exact Nat.le_refl _⟩, ⟨by repeat (first | (with_reducible first | exact HB.out | apply below_alloc | apply pw_below_drewN | apply below_drew1) | exact HB.out)⟩⟩
  case rest =>
    clear HC5
    try clear c1
    try clear p2
    try clear c7
    try clear c7b0
    try clear c7b1
    obtain ⟨kq, x19_4, rfl, HA, HJ4, HB⟩ := hcut
    cases kq with
    | zero => exact absurd HA.out (by simp [flaillaw01_UtfParts.j0])
    | succ kj4 =>
      have H := HA.out
      clear HA
      simp only [flaillaw01_UtfParts.j0] at H
      by_cases c8 : x19_4 = true
      · subst c8
        have H1 : (some t190) = some r := by rw [if_pos rfl] at H; exact H
        clear H
        have H := H1
        clear H1
        obtain rfl := Option.some.inj H
        go_wp2
        go_ret
        exact ⟨by first | rfl | (simp [errW_none, errW_some] <;> rfl) | (simp [*, errW_none, errW_some] <;> rfl), by repeat (first | (with_reducible first | exact HB.out | apply below_alloc | apply pw_below_drewN | apply below_drew1) | exact HB.out)⟩
      · replace c8 := Bool.eq_false_iff.mpr c8
        subst c8
        have H1 : ((some (([] : List Int) : List Int)).bind fun y191 => (if y191.length + l0.length < 140737488355328 then ((some (y191 ++ l0 : List Int)).bind fun y194 => (if y194.length < 140737488355328 then ((some (y194 ++ [Int.tmod a2 128] : List Int)).bind fun y197 => (if y197.length + l1.length < 140737488355328 then ((some (y197 ++ l1 : List Int)).bind fun y200 => ((some (([Int.tmod a2 128] : List Int) : List Int)).bind fun y203 => (if y203.length + l1.length < 140737488355328 then (if t190 = true then ((utf_Decode.f y200).bind fun t209 => ((utf_Decode.f l0).bind fun t210 => ((utf_Decode.f (y203 ++ l1)).bind fun t211 => (if t210.size + t211.size ≤ 9223372036854775807 then (if t209.toList = (t210 ++ t211).toList then ((utf_Right.f (strOfNums y200)).bind fun t212 => ((utf_Right.f (strOfNums l0)).bind fun t213 => (if t213 = true then ((utf_Right.f (strOfNums l1)).bind fun t214 => (some (t212 == t214))) else (some (t212 == false))))) else (some false)) else (none))))) else (some false)) else (none)))) else (none))) else (none))) else (none))) = some r := by rw [if_neg (show ¬ (false = true) by decide)] at H; exact H
        clear H
        have H := H1
        clear H1
        obtain ⟨y191, hy191⟩ : ∃ y_ : List Int, y_ = (([] : List Int)) := ⟨_, rfl⟩
        replace H : (if y191.length + l0.length < 140737488355328 then ((some (y191 ++ l0 : List Int)).bind fun y194 => (if y194.length < 140737488355328 then ((some (y194 ++ [Int.tmod a2 128] : List Int)).bind fun y197 => (if y197.length + l1.length < 140737488355328 then ((some (y197 ++ l1 : List Int)).bind fun y200 => ((some (([Int.tmod a2 128] : List Int) : List Int)).bind fun y203 => (if y203.length + l1.length < 140737488355328 then (if t190 = true then ((utf_Decode.f y200).bind fun t209 => ((utf_Decode.f l0).bind fun t210 => ((utf_Decode.f (y203 ++ l1)).bind fun t211 => (if t210.size + t211.size ≤ 9223372036854775807 then (if t209.toList = (t210 ++ t211).toList then ((utf_Right.f (strOfNums y200)).bind fun t212 => ((utf_Right.f (strOfNums l0)).bind fun t213 => (if t213 = true then ((utf_Right.f (strOfNums l1)).bind fun t214 => (some (t212 == t214))) else (some (t212 == false))))) else (some false)) else (none))))) else (some false)) else (none)))) else (none))) else (none))) else (none)) = some r := by first | (rw [hy191]; with_reducible exact H) | (have H2_ := (Option.bind_some _ _).symm.trans H; rw [hy191]; with_reducible exact H2_) | (have H2_ := (Option.bind_some _ _).symm.trans H; with_reducible exact H2_) | with_reducible exact H | (rw [hy191]; exact H) | exact H
        have Ny191 := Aside0.mk hy191
        clear hy191
        by_cases c9 : y191.length + l0.length < 140737488355328
        · rw [if_pos c9] at H
          have LMc9 := Aside0.mk c9
          clear c9
          obtain ⟨y194, hy194⟩ : ∃ y_ : List Int, y_ = (y191 ++ l0) := ⟨_, rfl⟩
          replace H : (if y194.length < 140737488355328 then ((some (y194 ++ [Int.tmod a2 128] : List Int)).bind fun y197 => (if y197.length + l1.length < 140737488355328 then ((some (y197 ++ l1 : List Int)).bind fun y200 => ((some (([Int.tmod a2 128] : List Int) : List Int)).bind fun y203 => (if y203.length + l1.length < 140737488355328 then (if t190 = true then ((utf_Decode.f y200).bind fun t209 => ((utf_Decode.f l0).bind fun t210 => ((utf_Decode.f (y203 ++ l1)).bind fun t211 => (if t210.size + t211.size ≤ 9223372036854775807 then (if t209.toList = (t210 ++ t211).toList then ((utf_Right.f (strOfNums y200)).bind fun t212 => ((utf_Right.f (strOfNums l0)).bind fun t213 => (if t213 = true then ((utf_Right.f (strOfNums l1)).bind fun t214 => (some (t212 == t214))) else (some (t212 == false))))) else (some false)) else (none))))) else (some false)) else (none)))) else (none))) else (none)) = some r := by first | (rw [hy194]; with_reducible exact H) | (have H2_ := (Option.bind_some _ _).symm.trans H; rw [hy194]; with_reducible exact H2_) | (have H2_ := (Option.bind_some _ _).symm.trans H; with_reducible exact H2_) | with_reducible exact H | (rw [hy194]; exact H) | exact H
          have Ny194 := Aside0.mk hy194
          clear hy194
          by_cases c10 : y194.length < 140737488355328
          · rw [if_pos c10] at H
            have LMc10 := Aside0.mk c10
            clear c10
            obtain ⟨y197, hy197⟩ : ∃ y_ : List Int, y_ = (y194 ++ [Int.tmod a2 128]) := ⟨_, rfl⟩
            replace H : (if y197.length + l1.length < 140737488355328 then ((some (y197 ++ l1 : List Int)).bind fun y200 => ((some (([Int.tmod a2 128] : List Int) : List Int)).bind fun y203 => (if y203.length + l1.length < 140737488355328 then (if t190 = true then ((utf_Decode.f y200).bind fun t209 => ((utf_Decode.f l0).bind fun t210 => ((utf_Decode.f (y203 ++ l1)).bind fun t211 => (if t210.size + t211.size ≤ 9223372036854775807 then (if t209.toList = (t210 ++ t211).toList then ((utf_Right.f (strOfNums y200)).bind fun t212 => ((utf_Right.f (strOfNums l0)).bind fun t213 => (if t213 = true then ((utf_Right.f (strOfNums l1)).bind fun t214 => (some (t212 == t214))) else (some (t212 == false))))) else (some false)) else (none))))) else (some false)) else (none)))) else (none)) = some r := by first | (rw [hy197]; with_reducible exact H) | (have H2_ := (Option.bind_some _ _).symm.trans H; rw [hy197]; with_reducible exact H2_) | (have H2_ := (Option.bind_some _ _).symm.trans H; with_reducible exact H2_) | with_reducible exact H | (rw [hy197]; exact H) | exact H
            have Ny197 := Aside0.mk hy197
            clear hy197
            by_cases c11 : y197.length + l1.length < 140737488355328
            · rw [if_pos c11] at H
              have LMc11 := Aside0.mk c11
              clear c11
              obtain ⟨y200, hy200⟩ : ∃ y_ : List Int, y_ = (y197 ++ l1) := ⟨_, rfl⟩
              replace H : ((some (([Int.tmod a2 128] : List Int) : List Int)).bind fun y203 => (if y203.length + l1.length < 140737488355328 then (if t190 = true then ((utf_Decode.f y200).bind fun t209 => ((utf_Decode.f l0).bind fun t210 => ((utf_Decode.f (y203 ++ l1)).bind fun t211 => (if t210.size + t211.size ≤ 9223372036854775807 then (if t209.toList = (t210 ++ t211).toList then ((utf_Right.f (strOfNums y200)).bind fun t212 => ((utf_Right.f (strOfNums l0)).bind fun t213 => (if t213 = true then ((utf_Right.f (strOfNums l1)).bind fun t214 => (some (t212 == t214))) else (some (t212 == false))))) else (some false)) else (none))))) else (some false)) else (none))) = some r := by first | (rw [hy200]; with_reducible exact H) | (have H2_ := (Option.bind_some _ _).symm.trans H; rw [hy200]; with_reducible exact H2_) | (have H2_ := (Option.bind_some _ _).symm.trans H; with_reducible exact H2_) | with_reducible exact H | (rw [hy200]; exact H) | exact H
              have Ny200 := Aside0.mk hy200
              clear hy200
              obtain ⟨y203, hy203⟩ : ∃ y_ : List Int, y_ = (([Int.tmod a2 128] : List Int)) := ⟨_, rfl⟩
              replace H : (if y203.length + l1.length < 140737488355328 then (if t190 = true then ((utf_Decode.f y200).bind fun t209 => ((utf_Decode.f l0).bind fun t210 => ((utf_Decode.f (y203 ++ l1)).bind fun t211 => (if t210.size + t211.size ≤ 9223372036854775807 then (if t209.toList = (t210 ++ t211).toList then ((utf_Right.f (strOfNums y200)).bind fun t212 => ((utf_Right.f (strOfNums l0)).bind fun t213 => (if t213 = true then ((utf_Right.f (strOfNums l1)).bind fun t214 => (some (t212 == t214))) else (some (t212 == false))))) else (some false)) else (none))))) else (some false)) else (none)) = some r := by first | (rw [hy203]; with_reducible exact H) | (have H2_ := (Option.bind_some _ _).symm.trans H; rw [hy203]; with_reducible exact H2_) | (have H2_ := (Option.bind_some _ _).symm.trans H; with_reducible exact H2_) | with_reducible exact H | (rw [hy203]; exact H) | exact H
              have Ny203 := Aside0.mk hy203
              clear hy203
              by_cases c12 : y203.length + l1.length < 140737488355328
              · rw [if_pos c12] at H
                have LMc12 := Aside0.mk c12
                clear c12
                obtain ⟨y206, hy206⟩ : ∃ y_ : List Int, y_ = (y203 ++ l1) := ⟨_, rfl⟩
                replace H : (if t190 = true then ((utf_Decode.f y200).bind fun t209 => ((utf_Decode.f l0).bind fun t210 => ((utf_Decode.f y206).bind fun t211 => (if t210.size + t211.size ≤ 9223372036854775807 then (if t209.toList = (t210 ++ t211).toList then ((utf_Right.f (strOfNums y200)).bind fun t212 => ((utf_Right.f (strOfNums l0)).bind fun t213 => (if t213 = true then ((utf_Right.f (strOfNums l1)).bind fun t214 => (some (t212 == t214))) else (some (t212 == false))))) else (some false)) else (none))))) else (some false)) = some r := by first | (rw [hy206]; with_reducible exact H) | (have H2_ := (Option.bind_some _ _).symm.trans H; rw [hy206]; with_reducible exact H2_) | (have H2_ := (Option.bind_some _ _).symm.trans H; with_reducible exact H2_) | with_reducible exact H | (rw [hy206]; exact H) | exact H
                have Ny206 := Aside0.mk hy206
                clear hy206
                by_cases c13 : t190 = true
                · subst c13
                  have H1 : ((utf_Decode.f y200).bind fun t209 => ((utf_Decode.f l0).bind fun t210 => ((utf_Decode.f y206).bind fun t211 => (if t210.size + t211.size ≤ 9223372036854775807 then (if t209.toList = (t210 ++ t211).toList then ((utf_Right.f (strOfNums y200)).bind fun t212 => ((utf_Right.f (strOfNums l0)).bind fun t213 => (if t213 = true then ((utf_Right.f (strOfNums l1)).bind fun t214 => (some (t212 == t214))) else (some (t212 == false))))) else (some false)) else (none))))) = some r := by rw [if_pos rfl] at H; exact H
                  clear H
                  have H := H1
                  clear H1
                  replace H := Option.bind_eq_some_iff.mp H
                  obtain ⟨t209, A140, H⟩ := H
                  replace H : ((utf_Decode.f l0).bind fun t210 => ((utf_Decode.f y206).bind fun t211 => (if t210.size + t211.size ≤ 9223372036854775807 then (if t209.toList = (t210 ++ t211).toList then ((utf_Right.f (strOfNums y200)).bind fun t212 => ((utf_Right.f (strOfNums l0)).bind fun t213 => (if t213 = true then ((utf_Right.f (strOfNums l1)).bind fun t214 => (some (t212 == t214))) else (some (t212 == false))))) else (some false)) else (none)))) = some r := H
                  have A14 := Aside0.mk A140
                  clear A140
                  replace H := Option.bind_eq_some_iff.mp H
                  obtain ⟨t210, A150, H⟩ := H
                  replace H : ((utf_Decode.f y206).bind fun t211 => (if t210.size + t211.size ≤ 9223372036854775807 then (if t209.toList = (t210 ++ t211).toList then ((utf_Right.f (strOfNums y200)).bind fun t212 => ((utf_Right.f (strOfNums l0)).bind fun t213 => (if t213 = true then ((utf_Right.f (strOfNums l1)).bind fun t214 => (some (t212 == t214))) else (some (t212 == false))))) else (some false)) else (none))) = some r := H
                  have A15 := Aside0.mk A150
                  clear A150
                  replace H := Option.bind_eq_some_iff.mp H
                  obtain ⟨t211, A160, H⟩ := H
                  replace H : (if t210.size + t211.size ≤ 9223372036854775807 then (if t209.toList = (t210 ++ t211).toList then ((utf_Right.f (strOfNums y200)).bind fun t212 => ((utf_Right.f (strOfNums l0)).bind fun t213 => (if t213 = true then ((utf_Right.f (strOfNums l1)).bind fun t214 => (some (t212 == t214))) else (some (t212 == false))))) else (some false)) else (none)) = some r := H
                  have A16 := Aside0.mk A160
                  clear A160
                  by_cases c17 : t210.size + t211.size ≤ 9223372036854775807
                  · rw [if_pos c17] at H
                    have c17b0 := eq_true c17
                    have c17b1 : decide (t210.size + t211.size ≤ 9223372036854775807) = true := decide_eq_true c17
                    try have c17b2 : (9223372036854775807 < t210.size + t211.size) = False := eq_false (Nat.not_lt.2 c17)
                    by_cases c18 : t209.toList = (t210 ++ t211).toList
                    · rw [if_pos c18] at H
                      have c18b0 : (t209.toList == (t210 ++ t211).toList) = true := beq_iff_eq.mpr c18
                      have c18b1 : (t209.toList != (t210 ++ t211).toList) = false := bne_eq_false_iff_eq.mpr c18
                      clear c18
                      replace H := Option.bind_eq_some_iff.mp H
                      obtain ⟨t212, A190, H⟩ := H
                      replace H : ((utf_Right.f (strOfNums l0)).bind fun t213 => (if t213 = true then ((utf_Right.f (strOfNums l1)).bind fun t214 => (some (t212 == t214))) else (some (t212 == false)))) = some r := H
                      have A19 := Aside0.mk A190
                      clear A190
                      replace H := Option.bind_eq_some_iff.mp H
                      obtain ⟨t213, A200, H⟩ := H
                      replace H : (if t213 = true then ((utf_Right.f (strOfNums l1)).bind fun t214 => (some (t212 == t214))) else (some (t212 == false))) = some r := H
                      have A20 := Aside0.mk A200
                      clear A200
                      by_cases c21 : t213 = true
                      · subst c21
                        have H1 : ((utf_Right.f (strOfNums l1)).bind fun t214 => (some (t212 == t214))) = some r := by rw [if_pos rfl] at H; exact H
                        clear H
                        have H := H1
                        clear H1
                        replace H := Option.bind_eq_some_iff.mp H
                        obtain ⟨t214, A220, H⟩ := H
                        replace H : (some (t212 == t214)) = some r := H
                        have A22 := Aside0.mk A220
                        clear A220
                        obtain rfl := Option.some.inj H
                        try go_wp2_with (first | ((with_reducible refine gate_dst (N := 23) rfl ?_); (try (refine gate_guard (by rfl) ?_; dsimp only)); refine Kd.R_lit (Kd.int .u8) _ 5 ?hg (N := 23) ?hd (xs := ([] : List Int)) (inner := []) (ok := fun _ => True) (okp := fun _ => True) ?hr ?hp (fun _ hk => hk) trivial (Below.refl _ _) (Nat.le_refl _) (by simp) ?_; (case hd => rfl); (case hg => rfl); (case hr => first | (go_simp; done) | (go_simp; rfl)); (case hp => exact (Reps.none _ _)); intro v192 w23 ho24 hb hg_ hnew_; clear hg_ hnew_; (first | rw [← Ny191.out] at ho24 | (simp only [Int.reduceToNat] at ho24; rw [← Ny191.out] at ho24)); have n0_ := Aside0.mk (Kd.R_lower ho24 (below_size (by repeat (first | (with_reducible first | exact HB.out | apply below_alloc | apply pw_below_drewN | apply below_drew1) | exact HB.out)))); have n1_ := Aside0.mk (below_step (by repeat (first | (with_reducible first | exact HB.out | apply below_alloc | apply pw_below_drewN | apply below_drew1) | exact HB.out)) hb); clear HB; have HO193 := n0_; have HB := n1_; clear n0_ n1_; clear hb ho24) | ((with_reducible refine gate_builtin (b := .append) (xs := #[.tmp 23, .tmp 24]) rfl ?_); (try (refine gate_guard (by rfl) ?_; dsimp only)); at_builtin; refine Kd.R_append_rows (Kd.int .u8) (w0 := w) w.heap.size rfl (.tmp 23) (.tmp 24) 22 5 (.int .u8 0) 1 rfl Try.underlying22 info5 rfl (by decide) (by omega) v192 y191 l0 _ _ _ (fun _ => True) (fun _ => False) rfl rfl ?aO ?aR (fun _ _ h => h) (fun _ h => h.elim) ?aF ?aB ?aS ?aL ?_; (case aR => repeat (first | exact (Kd.C_below HR0.out HB.out) | (with_reducible refine Kd.C_alloc ?_ _) | (with_reducible refine Kd.C_drewN ?_ _) | (with_reducible refine Kd.C_drew ?_))); (case aB => exact (by repeat (first | (with_reducible first | exact HB.out | apply below_alloc | apply pw_below_drewN | apply below_drew1) | exact HB.out))); (case aF => exact (fun _ _ => trivial)); (case aO => exact (by (with_reducible repeat (first | apply Kd.R_alloc | apply Kd.R_drewN | apply Kd.R_drew)); exact HO193.out)); (case aS => exact (below_size (by repeat (first | (with_reducible first | exact HB.out | apply below_alloc | apply pw_below_drewN | apply below_drew1) | exact HB.out)))); (case aL => have := LMc9.out; omega); intro v195 w25 ho hb hg hat; rw [← Ny194.out] at ho; have n0_ := Aside0.mk (hb); have n1_ := Aside0.mk (ho); clear HB; clear HO193; have HB := n0_; have HO196 := n1_; clear n0_ n1_; clear ho hb hg hat) | ((with_reducible refine gate_builtin (b := .append) (xs := #[.tmp 25, .tmp 27]) rfl ?_); (try (refine gate_guard (by rfl) ?_; dsimp only)); at_builtin; refine Kd.R_append (Kd.int .u8) (w0 := w) w.heap.size rfl (.tmp 25) (.tmp 27) 22 5 (.int .u8 0) 1 rfl Try.underlying22 info5 rfl (by decide) (by omega) v195 y194 (Int.tmod a2 128) [.int .u8 (Int.tmod a2 128)] (fun _ => True) (fun _ => False) rfl rfl ?aP (fun _ hk => hk.elim) ?aF ?aO ?aB ?aS ?aL ?_; (case aP => exact rfl); (case aB => exact (by repeat (first | (with_reducible first | exact HB.out | apply below_alloc | apply pw_below_drewN | apply below_drew1) | exact HB.out))); (case aF => exact (fun _ _ => trivial)); (case aO => exact (by (with_reducible repeat (first | apply Kd.R_alloc | apply Kd.R_drewN | apply Kd.R_drew)); exact HO196.out)); (case aS => exact (below_size (by repeat (first | (with_reducible first | exact HB.out | apply below_alloc | apply pw_below_drewN | apply below_drew1) | exact HB.out)))); (case aL => have := LMc10.out; omega); intro v198 w26 ho hb hg hat; rw [← Ny197.out] at ho; have n0_ := Aside0.mk (hb); have n1_ := Aside0.mk (ho); clear HB; clear HO196; have HB := n0_; have HO199 := n1_; clear n0_ n1_; clear ho hb hg hat) | ((with_reducible refine gate_builtin (b := .append) (xs := #[.tmp 28, .tmp 29]) rfl ?_); (try (refine gate_guard (by rfl) ?_; dsimp only)); at_builtin; refine Kd.R_append_rows (Kd.int .u8) (w0 := w) w.heap.size rfl (.tmp 28) (.tmp 29) 22 5 (.int .u8 0) 1 rfl Try.underlying22 info5 rfl (by decide) (by omega) v198 y197 l1 _ _ _ (fun _ => True) (fun _ => False) rfl rfl ?aO ?aR (fun _ _ h => h) (fun _ h => h.elim) ?aF ?aB ?aS ?aL ?_; (case aR => repeat (first | exact (Kd.C_below HR1.out HB.out) | (with_reducible refine Kd.C_alloc ?_ _) | (with_reducible refine Kd.C_drewN ?_ _) | (with_reducible refine Kd.C_drew ?_))); (case aB => exact (by repeat (first | (with_reducible first | exact HB.out | apply below_alloc | apply pw_below_drewN | apply below_drew1) | exact HB.out))); (case aF => exact (fun _ _ => trivial)); (case aO => exact (by (with_reducible repeat (first | apply Kd.R_alloc | apply Kd.R_drewN | apply Kd.R_drew)); exact HO199.out)); (case aS => exact (below_size (by repeat (first | (with_reducible first | exact HB.out | apply below_alloc | apply pw_below_drewN | apply below_drew1) | exact HB.out)))); (case aL => have := LMc11.out; omega); intro v201 w27 ho hb hg hat; rw [← Ny200.out] at ho; have n0_ := Aside0.mk (hb); have n1_ := Aside0.mk (ho); clear HB; clear HO199; have HB := n0_; have HO202 := n1_; clear n0_ n1_; clear ho hb hg hat) | ((with_reducible refine gate_dst (N := 32) rfl ?_); (try (refine gate_guard (by rfl) ?_; dsimp only)); refine Kd.R_lit (Kd.int .u8) _ 5 ?hg (N := 32) ?hd (xs := ([Int.tmod a2 128] : List Int)) (inner := [.int .u8 (Int.tmod a2 128)]) (ok := fun _ => True) (okp := fun _ => True) ?hr ?hp (fun _ hk => hk) trivial (Below.refl _ _) (Nat.le_refl _) (by simp) ?_; (case hd => rfl); (case hg => rfl); (case hr => first | (go_simp; done) | (go_simp; rfl)); (case hp => exact (Reps.one (show Kd.M (Kd.int .u8) _ _ _ (Int.tmod a2 128) [.int .u8 (Int.tmod a2 128)] from rfl) (Reps.none _ _))); intro v204 w28 ho29 hb hg_ hnew_; clear hg_ hnew_; (first | rw [← Ny203.out] at ho29 | (simp only [Int.reduceToNat] at ho29; rw [← Ny203.out] at ho29)); have n0_ := Aside0.mk (Kd.R_elder' (by (with_reducible repeat (first | apply Kd.R_alloc | apply Kd.R_drewN | apply Kd.R_drew)); exact HO202.out) (Kd.R_base ho29) hb); have n1_ := Aside0.mk (Kd.R_lower (Kd.R_new' ho29 (Kd.R_lt (by (with_reducible repeat (first | apply Kd.R_alloc | apply Kd.R_drewN | apply Kd.R_drew)); exact HO202.out))) (below_size (by repeat (first | (with_reducible first | exact HB.out | apply below_alloc | apply pw_below_drewN | apply below_drew1) | exact HB.out)))); have n2_ := Aside0.mk (below_step (by repeat (first | (with_reducible first | exact HB.out | apply below_alloc | apply pw_below_drewN | apply below_drew1) | exact HB.out)) hb); clear HO202; clear HB; have HO202 := n0_; have HO205 := n1_; have HB := n2_; clear n0_ n1_ n2_; clear hb ho29) | ((with_reducible refine gate_builtin (b := .append) (xs := #[.tmp 32, .tmp 33]) rfl ?_); (try (refine gate_guard (by rfl) ?_; dsimp only)); at_builtin; refine Kd.R_append_rows (Kd.int .u8) (w0 := w) w.heap.size rfl (.tmp 32) (.tmp 33) 22 5 (.int .u8 0) 1 rfl Try.underlying22 info5 rfl (by decide) (by omega) v204 y203 l1 _ _ _ (fun k_ => some k_ ≠ (v201 : Value).ownBlock) (fun _ => False) rfl rfl ?aO ?aR (fun _ _ h => h) (fun _ h => h.elim) ?aF ?aB ?aS ?aL ?_; (case aR => repeat (first | exact (Kd.C_below HR1.out HB.out) | (with_reducible refine Kd.C_alloc ?_ _) | (with_reducible refine Kd.C_drewN ?_ _) | (with_reducible refine Kd.C_drew ?_))); (case aB => exact (by repeat (first | (with_reducible first | exact HB.out | apply below_alloc | apply pw_below_drewN | apply below_drew1) | exact HB.out))); (case aF => exact (fun k_ hk => Kd.fresh' (Kd.R_lt (by (with_reducible repeat (first | apply Kd.R_alloc | apply Kd.R_drewN | apply Kd.R_drew)); exact HO202.out)) k_ hk)); (case aO => exact (by (with_reducible repeat (first | apply Kd.R_alloc | apply Kd.R_drewN | apply Kd.R_drew)); exact Kd.R_mono HO205.out (fun _ hk => hk.2))); (case aS => exact (below_size (by repeat (first | (with_reducible first | exact HB.out | apply below_alloc | apply pw_below_drewN | apply below_drew1) | exact HB.out)))); (case aL => have := LMc12.out; omega); intro v207 w30 ho hb hg hat; rw [← Ny206.out] at ho; have n0_ := Aside0.mk (Kd.R_after (ok := (fun _ => True)) (by (with_reducible repeat (first | apply Kd.R_alloc | apply Kd.R_drewN | apply Kd.R_drew)); exact HO202.out) hg hat); have n1_ := Aside0.mk (hb); have n2_ := Aside0.mk (ho); clear HO202; clear HB; clear HO205; have HO202 := n0_; have HB := n1_; have HO208 := n2_; clear n0_ n1_ n2_; clear ho hb hg hat; obtain ⟨Ao31, co31, eo31⟩ := Kd.R_slice HO202.out; subst eo31; obtain ⟨Ao32, co32, eo32⟩ := Kd.R_slice HO208.out; subst eo32))
                        have n0_ := Aside0.mk (Kd.R_drew HO202.out)
                        have n1_ := Aside0.mk (Kd.R_drew HO208.out)
                        have n2_ := Aside0.mk (below_drew1 HB.out)
                        clear HO202
                        clear HO208
                        clear HB
                        have HO202 := n0_
                        have HO208 := n1_
                        have HB := n2_
                        clear n0_ n1_ n2_
                        refine start_ (n := 26) (S := fun w' => Below w.heap.size w w' ∧ (convert 22 9 (Value.slice Ao31 y200.length co31)).run Try.prog w' = Result.ok (Value.string (strOfNums y200)) w') (ds := []) #[false, false, false, false, false, false, false, false, false, false, false, false, false, false, false, false, false, false, false, false, false, false, false, false, false, false] (by kernel_rfl) rfl rfl ⟨HB.out, own_string (P := Try.prog) Try.underlying22 Try.underlying5 Try.underlying9 (Kd.own_of_R HO202.out)⟩ (fun hHeld => ?_); refine with_tabW flaillaw01_UtfParts.tab7 flaillaw01_UtfParts.bits7 (fun HT_ HW_ => ?_)
                        generalize w30.drew = w33 at HO202 HO208 HB hHeld ⊢
                        refine pure_ (i := 0) (N := some 35) (v := ?_) (a' := ?_) #[true, false, false, false, false, false, false, false, false, false, false, false, false, false, false, false, false, false, false, false, false, false, false, false, false, false] rfl rfl (any_of HT_.out (by kernel_rfl)) (fun _ _ _ h => h) (Or.inl ⟨by rfl, ?_⟩) ?_ ?_
                        rotate_left
                        · intro w'
                          go_simp
                          with_reducible rfl
                        rotate_left
                        · simp only [Act.put, List.setIfInBounds_toArray, List.set_cons_zero, List.set_cons_succ, i64_w, i32_w]
                          rfl
                        refine pure_ (i := 1) (N := some 36) (v := ?_) (a' := ?_) #[true, true, false, false, false, false, false, false, false, false, false, false, false, false, false, false, false, false, false, false, false, false, false, false, false, false] rfl rfl (any_of HT_.out (by kernel_rfl)) (fun _ _ _ h => h) (Or.inl ⟨by rfl, ?_⟩) ?_ ?_
                        rotate_left
                        · intro w'
                          go_simp
                          with_reducible rfl
                        rotate_left
                        · simp only [Act.put, List.setIfInBounds_toArray, List.set_cons_zero, List.set_cons_succ, i64_w, i32_w]
                          rfl
                        refine pure_ (i := 2) (N := some 37) (v := ?_) (a' := ?_) #[true, true, true, false, false, false, false, false, false, false, false, false, false, false, false, false, false, false, false, false, false, false, false, false, false, false] rfl rfl (any_of HT_.out (by kernel_rfl)) (fun _ _ _ h => h) (Or.inl ⟨by rfl, ?_⟩) ?_ ?_
                        rotate_left
                        · intro w'
                          go_simp
                          with_reducible rfl
                        rotate_left
                        · simp only [Act.put, List.setIfInBounds_toArray, List.set_cons_zero, List.set_cons_succ, i64_w, i32_w]
                          rfl
                        refine pure_ (i := 4) (N := some 39) (v := ?_) (a' := ?_) #[true, true, true, false, true, false, false, false, false, false, false, false, false, false, false, false, false, false, false, false, false, false, false, false, false, false] rfl rfl (any_of HT_.out (by kernel_rfl)) (fun _ _ _ h => h) (Or.inl ⟨by rfl, ?_⟩) ?_ ?_
                        rotate_left
                        · intro w'
                          go_simp
                          with_reducible rfl
                        rotate_left
                        · simp only [Act.put, List.setIfInBounds_toArray, List.set_cons_zero, List.set_cons_succ, i64_w, i32_w]
                          rfl
                        refine pure_ (i := 6) (N := some 41) (v := ?_) (a' := ?_) #[true, true, true, false, true, false, true, false, false, false, false, false, false, false, false, false, false, false, false, false, false, false, false, false, false, false] rfl rfl (any_of HT_.out (by kernel_rfl)) (fun _ _ _ h => h) (Or.inl ⟨by rfl, ?_⟩) ?_ ?_
                        rotate_left
                        · intro w'
                          go_simp
                          with_reducible rfl
                        rotate_left
                        · simp only [Act.put, List.setIfInBounds_toArray, List.set_cons_zero, List.set_cons_succ, i64_w, i32_w]
                          rfl
                        refine one_ (i := 3) (N := some 38) #[true, true, true, true, true, false, true, false, false, false, false, false, false, false, false, false, false, false, false, false, false, false, false, false, false, false] rfl rfl (one_of HT_.out (by kernel_rfl)) (by decide) (fun K hK => ?_)
                        refine goes_ Try.func11 (by kernel_rfl) rfl #[.slice Ao31 y200.length co31] (by rfl) rfl rfl (by (try simp only [List.map_toArray, List.map_cons, List.map_nil]); first | done | rfl | (simp only [List.length_drop, List.length_take]; rfl)) ?_
                        with_reducible refine (utf_Decode.calls _ _ y200 t209 _ ?side1 ?side2 A14.out).mono ?_
                        (case side1 => repeat (first | exact (Kd.R_reads' HO202.out).2.2 | (with_reducible refine Kd.C_alloc ?_ _) | (with_reducible refine Kd.C_drewN ?_ _) | (with_reducible refine Kd.C_drew ?_)))
                        (case side2 => exact (Kd.R_reads' HO202.out).2.1)
                        rintro e w34 ⟨rfl, hb⟩
                        refine ⟨_, rfl, ?_⟩
                        have n0_ := Aside0.mk (Kd.R_below (by (with_reducible repeat (first | apply Kd.R_alloc | apply Kd.R_drewN | apply Kd.R_drew)); exact HO202.out) hb)
                        have n1_ := Aside0.mk (Kd.R_below (by (with_reducible repeat (first | apply Kd.R_alloc | apply Kd.R_drewN | apply Kd.R_drew)); exact HO208.out) hb)
                        have n2_ := Aside0.mk (below_step (by repeat (first | (with_reducible first | exact HB.out | apply below_alloc | apply pw_below_drewN | apply below_drew1) | exact HB.out)) hb)
                        clear HO202
                        clear HO208
                        clear HB
                        have HO202 := n0_
                        have HO208 := n1_
                        have HB := n2_
                        clear n0_ n1_ n2_
                        (try clear hb)
                        (try clear hb2)
                        (try clear hk)
                        (try clear hi)
                        refine hK.out _ _ ⟨HB.out, own_string (P := Try.prog) Try.underlying22 Try.underlying5 Try.underlying9 (Kd.own_of_R HO202.out)⟩ (fun hHeld => ?_)
                        clear hK K
                        refine norm_ (a' := ?_) ?_ ?_
                        rotate_left
                        · show Act.put _ (some 38) _ = _
                          simp only [Act.put, List.setIfInBounds_toArray, List.set_cons_zero, List.set_cons_succ, i64_w, i32_w]
                          rfl
                        refine one_ (i := 5) (N := some 40) #[true, true, true, true, true, true, true, false, false, false, false, false, false, false, false, false, false, false, false, false, false, false, false, false, false, false] rfl rfl (one_of HT_.out (by kernel_rfl)) (by decide) (fun K hK => ?_)
                        refine goes_ Try.func11 (by kernel_rfl) rfl #[.slice A0 l0.length c0] (by rfl) rfl rfl (by (try simp only [List.map_toArray, List.map_cons, List.map_nil]); first | done | rfl | (simp only [List.length_drop, List.length_take]; rfl)) ?_
                        with_reducible refine (utf_Decode.calls _ _ l0 t210 _ ?side1 ?side2 A15.out).mono ?_
                        (case side1 => repeat (first | exact (Kd.C_below HR0.out HB.out) | (with_reducible refine Kd.C_alloc ?_ _) | (with_reducible refine Kd.C_drewN ?_ _) | (with_reducible refine Kd.C_drew ?_)))
                        (case side2 => exact HC0.out)
                        rintro e w35 ⟨rfl, hb⟩
                        refine ⟨_, rfl, ?_⟩
                        have n0_ := Aside0.mk (Kd.R_below (by (with_reducible repeat (first | apply Kd.R_alloc | apply Kd.R_drewN | apply Kd.R_drew)); exact HO202.out) hb)
                        have n1_ := Aside0.mk (Kd.R_below (by (with_reducible repeat (first | apply Kd.R_alloc | apply Kd.R_drewN | apply Kd.R_drew)); exact HO208.out) hb)
                        have n2_ := Aside0.mk (below_step (by repeat (first | (with_reducible first | exact HB.out | apply below_alloc | apply pw_below_drewN | apply below_drew1) | exact HB.out)) hb)
                        clear HO202
                        clear HO208
                        clear HB
                        have HO202 := n0_
                        have HO208 := n1_
                        have HB := n2_
                        clear n0_ n1_ n2_
                        (try clear hb)
                        (try clear hb2)
                        (try clear hk)
                        (try clear hi)
                        refine hK.out _ _ ⟨HB.out, own_string (P := Try.prog) Try.underlying22 Try.underlying5 Try.underlying9 (Kd.own_of_R HO202.out)⟩ (fun hHeld => ?_)
                        clear hK K
                        refine norm_ (a' := ?_) ?_ ?_
                        rotate_left
                        · show Act.put _ (some 40) _ = _
                          simp only [Act.put, List.setIfInBounds_toArray, List.set_cons_zero, List.set_cons_succ, i64_w, i32_w]
                          rfl
                        refine one_ (i := 7) (N := some 42) #[true, true, true, true, true, true, true, true, false, false, false, false, false, false, false, false, false, false, false, false, false, false, false, false, false, false] rfl rfl (one_of HT_.out (by kernel_rfl)) (by decide) (fun K hK => ?_)
                        refine goes_ Try.func11 (by kernel_rfl) rfl #[.slice Ao32 y206.length co32] (by rfl) rfl rfl (by (try simp only [List.map_toArray, List.map_cons, List.map_nil]); first | done | rfl | (simp only [List.length_drop, List.length_take]; rfl)) ?_
                        with_reducible refine (utf_Decode.calls _ _ y206 t211 _ ?side1 ?side2 A16.out).mono ?_
                        (case side1 => repeat (first | exact (Kd.R_reads' HO208.out).2.2 | (with_reducible refine Kd.C_alloc ?_ _) | (with_reducible refine Kd.C_drewN ?_ _) | (with_reducible refine Kd.C_drew ?_)))
                        (case side2 => exact (Kd.R_reads' HO208.out).2.1)
                        rintro e w36 ⟨rfl, hb⟩
                        refine ⟨_, rfl, ?_⟩
                        have n0_ := Aside0.mk (Kd.R_below (by (with_reducible repeat (first | apply Kd.R_alloc | apply Kd.R_drewN | apply Kd.R_drew)); exact HO202.out) hb)
                        have n1_ := Aside0.mk (Kd.R_below (by (with_reducible repeat (first | apply Kd.R_alloc | apply Kd.R_drewN | apply Kd.R_drew)); exact HO208.out) hb)
                        have n2_ := Aside0.mk (below_step (by repeat (first | (with_reducible first | exact HB.out | apply below_alloc | apply pw_below_drewN | apply below_drew1) | exact HB.out)) hb)
                        clear HO202
                        clear HO208
                        clear HB
                        have HO202 := n0_
                        have HO208 := n1_
                        have HB := n2_
                        clear n0_ n1_ n2_
                        (try clear hb)
                        (try clear hb2)
                        (try clear hk)
                        (try clear hi)
                        refine hK.out _ _ ⟨HB.out, own_string (P := Try.prog) Try.underlying22 Try.underlying5 Try.underlying9 (Kd.own_of_R HO202.out)⟩ (fun hHeld => ?_)
                        clear hK K
                        refine norm_ (a' := ?_) ?_ ?_
                        rotate_left
                        · show Act.put _ (some 42) _ = _
                          simp only [Act.put, List.setIfInBounds_toArray, List.set_cons_zero, List.set_cons_succ, i64_w, i32_w]
                          rfl
                        refine pure_ (i := 8) (N := some 43) (v := ?_) (a' := ?_) #[true, true, true, true, true, true, true, true, true, false, false, false, false, false, false, false, false, false, false, false, false, false, false, false, false, false] rfl rfl (any_of HT_.out (by kernel_rfl)) (fun _ _ _ h => h) (Or.inl ⟨by rfl, ?_⟩) ?_ ?_
                        rotate_left
                        · intro w'
                          go_simp
                          with_reducible rfl
                        rotate_left
                        · simp only [Act.put, List.setIfInBounds_toArray, List.set_cons_zero, List.set_cons_succ, i64_w, i32_w]
                          rfl
                        refine pure_ (i := 9) (N := some 44) (v := ?_) (a' := ?_) #[true, true, true, true, true, true, true, true, true, true, false, false, false, false, false, false, false, false, false, false, false, false, false, false, false, false] rfl rfl (any_of HT_.out (by kernel_rfl)) (fun _ _ _ h => h) (Or.inl ⟨by rfl, ?_⟩) ?_ ?_
                        rotate_left
                        · intro w'
                          go_simp
                          with_reducible rfl
                        rotate_left
                        · simp only [Act.put, List.setIfInBounds_toArray, List.set_cons_zero, List.set_cons_succ, i64_w, i32_w]
                          rfl
                        refine pure_ (i := 10) (N := some 45) (v := ?_) (a' := ?_) #[true, true, true, true, true, true, true, true, true, true, true, false, false, false, false, false, false, false, false, false, false, false, false, false, false, false] rfl rfl (any_of HT_.out (by kernel_rfl)) (fun _ _ _ h => h) (Or.inl ⟨by rfl, ?_⟩) ?_ ?_
                        rotate_left
                        · intro w'
                          go_simp
                          with_reducible rfl
                        rotate_left
                        · simp only [Act.put, List.setIfInBounds_toArray, List.set_cons_zero, List.set_cons_succ, i64_w, i32_w]
                          rfl
                        refine pure_ (i := 11) (N := some 46) (v := ?_) (a' := ?_) #[true, true, true, true, true, true, true, true, true, true, true, true, false, false, false, false, false, false, false, false, false, false, false, false, false, false] rfl rfl (any_of HT_.out (by kernel_rfl)) (fun _ _ _ h => h) (Or.inl ⟨by rfl, ?_⟩) ?_ ?_
                        rotate_left
                        · intro w'
                          go_simp
                          with_reducible rfl
                        rotate_left
                        · simp only [Act.put, List.setIfInBounds_toArray, List.set_cons_zero, List.set_cons_succ, i64_w, i32_w]
                          rfl
                        refine pure_ (i := 12) (N := some 47) (v := ?_) (a' := ?_) #[true, true, true, true, true, true, true, true, true, true, true, true, true, false, false, false, false, false, false, false, false, false, false, false, false, false] rfl rfl (any_of HT_.out (by kernel_rfl)) (fun _ _ _ h => h) (Or.inl ⟨by rfl, ?_⟩) ?_ ?_
                        rotate_left
                        · intro w'
                          go_simp
                          with_reducible rfl
                        rotate_left
                        · simp only [Act.put, List.setIfInBounds_toArray, List.set_cons_zero, List.set_cons_succ, i64_w, i32_w]
                          rfl
                        refine take_ (i := 13) (N := some 48) (v := ?_) (a' := ?_) #[true, true, true, true, true, true, true, true, true, true, true, true, true, true, false, false, false, false, false, false, false, false, false, false, false, false] rfl rfl (take_ofW HT_.out HW_.out (by kernel_rfl)) (fun _ _ _ h => h) (Or.inl ⟨by rfl, ?_⟩) hHeld ?_ ?_
                        rotate_left
                        · intro w' hw_
                          have hcv0_ := Kd.C_string (P := Try.prog) (A := A0) (c := c0) Try.underlying22 Try.underlying5 Try.underlying9 (Kd.C_below HR0.out hw_.1)
                          have hcv1_ := Kd.C_string (P := Try.prog) (A := A1) (c := c1) Try.underlying22 Try.underlying5 Try.underlying9 (Kd.C_below HR1.out hw_.1)
                          have hcw0_ := hw_.2
                          clear hw_
                          go_simp
                          with_reducible rfl
                        rotate_left
                        · simp only [Act.put, List.setIfInBounds_toArray, List.set_cons_zero, List.set_cons_succ, i64_w, i32_w]
                          rfl
                        refine pure_ (i := 15) (N := some 50) (v := ?_) (a' := ?_) #[true, true, true, true, true, true, true, true, true, true, true, true, true, true, false, true, false, false, false, false, false, false, false, false, false, false] rfl rfl (any_of HT_.out (by kernel_rfl)) (fun _ _ _ h => h) (Or.inl ⟨by rfl, ?_⟩) ?_ ?_
                        rotate_left
                        · intro w'
                          go_simp
                          with_reducible rfl
                        rotate_left
                        · simp only [Act.put, List.setIfInBounds_toArray, List.set_cons_zero, List.set_cons_succ, i64_w, i32_w]
                          rfl
                        refine take_ (i := 16) (N := some 51) (v := ?_) (a' := ?_) #[true, true, true, true, true, true, true, true, true, true, true, true, true, true, false, true, true, false, false, false, false, false, false, false, false, false] rfl rfl (take_ofW HT_.out HW_.out (by kernel_rfl)) (fun _ _ _ h => h) (Or.inl ⟨by rfl, ?_⟩) hHeld ?_ ?_
                        rotate_left
                        · intro w' hw_
                          have hcv0_ := Kd.C_string (P := Try.prog) (A := A0) (c := c0) Try.underlying22 Try.underlying5 Try.underlying9 (Kd.C_below HR0.out hw_.1)
                          have hcv1_ := Kd.C_string (P := Try.prog) (A := A1) (c := c1) Try.underlying22 Try.underlying5 Try.underlying9 (Kd.C_below HR1.out hw_.1)
                          have hcw0_ := hw_.2
                          clear hw_
                          go_simp
                          with_reducible rfl
                        rotate_left
                        · simp only [Act.put, List.setIfInBounds_toArray, List.set_cons_zero, List.set_cons_succ, i64_w, i32_w]
                          rfl
                        refine one_ (i := 14) (N := some 49) #[true, true, true, true, true, true, true, true, true, true, true, true, true, true, true, true, true, false, false, false, false, false, false, false, false, false] rfl rfl (one_of HT_.out (by kernel_rfl)) (by decide) (fun K hK => ?_)
                        refine goes_ Try.func13 (by kernel_rfl) rfl #[.string (strOfNums y200)] (by rfl) rfl rfl (by (try simp only [List.map_toArray, List.map_cons, List.map_nil]); first | done | rfl | (simp only [List.length_drop, List.length_take]; rfl)) ?_
                        with_reducible refine (utf_Right.calls (strOfNums y200) t212 _ A19.out).mono ?_
                        rintro e w38 ⟨rfl, hb⟩
                        refine ⟨_, rfl, ?_⟩
                        have n0_ := Aside0.mk (Kd.R_below (by (with_reducible repeat (first | apply Kd.R_alloc | apply Kd.R_drewN | apply Kd.R_drew)); exact HO202.out) hb)
                        have n1_ := Aside0.mk (Kd.R_below (by (with_reducible repeat (first | apply Kd.R_alloc | apply Kd.R_drewN | apply Kd.R_drew)); exact HO208.out) hb)
                        have n2_ := Aside0.mk (below_step (by repeat (first | (with_reducible first | exact HB.out | apply below_alloc | apply pw_below_drewN | apply below_drew1) | exact HB.out)) hb)
                        clear HO202
                        clear HO208
                        clear HB
                        have HO202 := n0_
                        have HO208 := n1_
                        have HB := n2_
                        clear n0_ n1_ n2_
                        (try clear hb)
                        (try clear hb2)
                        (try clear hk)
                        (try clear hi)
                        refine hK.out _ _ ⟨HB.out, own_string (P := Try.prog) Try.underlying22 Try.underlying5 Try.underlying9 (Kd.own_of_R HO202.out)⟩ (fun hHeld => ?_)
                        clear hK K
                        refine norm_ (a' := ?_) ?_ ?_
                        rotate_left
                        · show Act.put _ (some 49) _ = _
                          simp only [Act.put, List.setIfInBounds_toArray, List.set_cons_zero, List.set_cons_succ, i64_w, i32_w]
                          rfl
                        refine one_ (i := 17) (N := some 52) #[true, true, true, true, true, true, true, true, true, true, true, true, true, true, true, true, true, true, false, false, false, false, false, false, false, false] rfl rfl (one_of HT_.out (by kernel_rfl)) (by decide) (fun K hK => ?_)
                        refine goes_ Try.func13 (by kernel_rfl) rfl #[.string (strOfNums l0)] (by rfl) rfl rfl (by (try simp only [List.map_toArray, List.map_cons, List.map_nil]); first | done | rfl | (simp only [List.length_drop, List.length_take]; rfl)) ?_
                        with_reducible refine (utf_Right.calls (strOfNums l0) true _ A20.out).mono ?_
                        rintro e w41 ⟨rfl, hb⟩
                        refine ⟨_, rfl, ?_⟩
                        have n0_ := Aside0.mk (Kd.R_below (by (with_reducible repeat (first | apply Kd.R_alloc | apply Kd.R_drewN | apply Kd.R_drew)); exact HO202.out) hb)
                        have n1_ := Aside0.mk (Kd.R_below (by (with_reducible repeat (first | apply Kd.R_alloc | apply Kd.R_drewN | apply Kd.R_drew)); exact HO208.out) hb)
                        have n2_ := Aside0.mk (below_step (by repeat (first | (with_reducible first | exact HB.out | apply below_alloc | apply pw_below_drewN | apply below_drew1) | exact HB.out)) hb)
                        clear HO202
                        clear HO208
                        clear HB
                        have HO202 := n0_
                        have HO208 := n1_
                        have HB := n2_
                        clear n0_ n1_ n2_
                        (try clear hb)
                        (try clear hb2)
                        (try clear hk)
                        (try clear hi)
                        refine hK.out _ _ ⟨HB.out, own_string (P := Try.prog) Try.underlying22 Try.underlying5 Try.underlying9 (Kd.own_of_R HO202.out)⟩ (fun hHeld => ?_)
                        clear hK K
                        refine norm_ (a' := ?_) ?_ ?_
                        rotate_left
                        · show Act.put _ (some 52) _ = _
                          simp only [Act.put, List.setIfInBounds_toArray, List.set_cons_zero, List.set_cons_succ, i64_w, i32_w]
                          rfl
                        refine pure_ (i := 18) (N := some 53) (v := ?_) (a' := ?_) #[true, true, true, true, true, true, true, true, true, true, true, true, true, true, true, true, true, true, true, false, false, false, false, false, false, false] rfl rfl (any_of HT_.out (by kernel_rfl)) (fun _ _ _ h => h) (Or.inl ⟨by rfl, ?_⟩) ?_ ?_
                        rotate_left
                        · intro w'
                          go_simp
                          with_reducible rfl
                        rotate_left
                        · simp only [Act.put, List.setIfInBounds_toArray, List.set_cons_zero, List.set_cons_succ, i64_w, i32_w]
                          rfl
                        refine pure_ (i := 19) (N := some 54) (v := ?_) (a' := ?_) #[true, true, true, true, true, true, true, true, true, true, true, true, true, true, true, true, true, true, true, true, false, false, false, false, false, false] rfl rfl (any_of HT_.out (by kernel_rfl)) (fun _ _ _ h => h) (Or.inl ⟨by rfl, ?_⟩) ?_ ?_
                        rotate_left
                        · intro w'
                          go_simp
                          with_reducible rfl
                        rotate_left
                        · simp only [Act.put, List.setIfInBounds_toArray, List.set_cons_zero, List.set_cons_succ, i64_w, i32_w]
                          rfl
                        refine take_ (i := 20) (N := some 55) (v := ?_) (a' := ?_) #[true, true, true, true, true, true, true, true, true, true, true, true, true, true, true, true, true, true, true, true, true, false, false, false, false, false] rfl rfl (take_ofW HT_.out HW_.out (by kernel_rfl)) (fun _ _ _ h => h) (Or.inl ⟨by rfl, ?_⟩) hHeld ?_ ?_
                        rotate_left
                        · intro w' hw_
                          have hcv0_ := Kd.C_string (P := Try.prog) (A := A0) (c := c0) Try.underlying22 Try.underlying5 Try.underlying9 (Kd.C_below HR0.out hw_.1)
                          have hcv1_ := Kd.C_string (P := Try.prog) (A := A1) (c := c1) Try.underlying22 Try.underlying5 Try.underlying9 (Kd.C_below HR1.out hw_.1)
                          have hcw0_ := hw_.2
                          clear hw_
                          go_simp
                          with_reducible rfl
                        rotate_left
                        · simp only [Act.put, List.setIfInBounds_toArray, List.set_cons_zero, List.set_cons_succ, i64_w, i32_w]
                          rfl
                        refine one_ (i := 21) (N := some 56) #[true, true, true, true, true, true, true, true, true, true, true, true, true, true, true, true, true, true, true, true, true, true, false, false, false, false] rfl rfl (one_of HT_.out (by kernel_rfl)) (by decide) (fun K hK => ?_)
                        refine goes_ Try.func13 (by kernel_rfl) rfl #[.string (strOfNums l1)] (by rfl) rfl rfl (by (try simp only [List.map_toArray, List.map_cons, List.map_nil]); first | done | rfl | (simp only [List.length_drop, List.length_take]; rfl)) ?_
                        with_reducible refine (utf_Right.calls (strOfNums l1) t214 _ A22.out).mono ?_
                        rintro e w43 ⟨rfl, hb⟩
                        refine ⟨_, rfl, ?_⟩
                        have n0_ := Aside0.mk (Kd.R_below (by (with_reducible repeat (first | apply Kd.R_alloc | apply Kd.R_drewN | apply Kd.R_drew)); exact HO202.out) hb)
                        have n1_ := Aside0.mk (Kd.R_below (by (with_reducible repeat (first | apply Kd.R_alloc | apply Kd.R_drewN | apply Kd.R_drew)); exact HO208.out) hb)
                        have n2_ := Aside0.mk (below_step (by repeat (first | (with_reducible first | exact HB.out | apply below_alloc | apply pw_below_drewN | apply below_drew1) | exact HB.out)) hb)
                        clear HO202
                        clear HO208
                        clear HB
                        have HO202 := n0_
                        have HO208 := n1_
                        have HB := n2_
                        clear n0_ n1_ n2_
                        (try clear hb)
                        (try clear hb2)
                        (try clear hk)
                        (try clear hi)
                        refine hK.out _ _ ⟨HB.out, own_string (P := Try.prog) Try.underlying22 Try.underlying5 Try.underlying9 (Kd.own_of_R HO202.out)⟩ (fun hHeld => ?_)
                        clear hK K
                        refine norm_ (a' := ?_) ?_ ?_
                        rotate_left
                        · show Act.put _ (some 56) _ = _
                          simp only [Act.put, List.setIfInBounds_toArray, List.set_cons_zero, List.set_cons_succ, i64_w, i32_w]
                          rfl
                        refine pure_ (i := 22) (N := some 57) (v := ?_) (a' := ?_) #[true, true, true, true, true, true, true, true, true, true, true, true, true, true, true, true, true, true, true, true, true, true, true, false, false, false] rfl rfl (any_of HT_.out (by kernel_rfl)) (fun _ _ _ h => h) (Or.inl ⟨by rfl, ?_⟩) ?_ ?_
                        rotate_left
                        · intro w'
                          go_simp
                          with_reducible rfl
                        rotate_left
                        · simp only [Act.put, List.setIfInBounds_toArray, List.set_cons_zero, List.set_cons_succ, i64_w, i32_w]
                          rfl
                        refine pure_ (i := 23) (N := some 58) (v := ?_) (a' := ?_) #[true, true, true, true, true, true, true, true, true, true, true, true, true, true, true, true, true, true, true, true, true, true, true, true, false, false] rfl rfl (any_of HT_.out (by kernel_rfl)) (fun _ _ _ h => h) (Or.inl ⟨by rfl, ?_⟩) ?_ ?_
                        rotate_left
                        · intro w'
                          go_simp
                          with_reducible rfl
                        rotate_left
                        · simp only [Act.put, List.setIfInBounds_toArray, List.set_cons_zero, List.set_cons_succ, i64_w, i32_w]
                          rfl
                        refine pure_ (i := 24) (N := some 59) (v := ?_) (a' := ?_) #[true, true, true, true, true, true, true, true, true, true, true, true, true, true, true, true, true, true, true, true, true, true, true, true, true, false] rfl rfl (any_of HT_.out (by kernel_rfl)) (fun _ _ _ h => h) (Or.inl ⟨by rfl, ?_⟩) ?_ ?_
                        rotate_left
                        · intro w'
                          go_simp
                          with_reducible rfl
                        rotate_left
                        · simp only [Act.put, List.setIfInBounds_toArray, List.set_cons_zero, List.set_cons_succ, i64_w, i32_w]
                          rfl
                        refine pure_ (i := 25) (N := some 6) (v := ?_) (a' := ?_) #[true, true, true, true, true, true, true, true, true, true, true, true, true, true, true, true, true, true, true, true, true, true, true, true, true, true] rfl rfl (any_of HT_.out (by kernel_rfl)) (fun _ _ _ h => h) (Or.inl ⟨by rfl, ?_⟩) ?_ ?_
                        rotate_left
                        · intro w'
                          go_simp
                          with_reducible rfl
                        rotate_left
                        · simp only [Act.put, List.setIfInBounds_toArray, List.set_cons_zero, List.set_cons_succ, i64_w, i32_w]
                          rfl
                        refine done_ (done_of HT_.out (by kernel_rfl)) ?_
                        try go_wp2
                        go_ret
                        exact ⟨by first | rfl | (simp [errW_none, errW_some] <;> rfl) | (simp [*, errW_none, errW_some] <;> rfl), by repeat (first | (with_reducible first | exact HB.out | apply below_alloc | apply pw_below_drewN | apply below_drew1) | exact HB.out)⟩
                      · replace c21 := Bool.eq_false_iff.mpr c21
                        subst c21
                        have H1 : (some (t212 == false)) = some r := by rw [if_neg (show ¬ (false = true) by decide)] at H; exact H
                        clear H
                        have H := H1
                        clear H1
                        obtain rfl := Option.some.inj H
                        try go_wp2_with (first | ((with_reducible refine gate_dst (N := 23) rfl ?_); (try (refine gate_guard (by rfl) ?_; dsimp only)); refine Kd.R_lit (Kd.int .u8) _ 5 ?hg (N := 23) ?hd (xs := ([] : List Int)) (inner := []) (ok := fun _ => True) (okp := fun _ => True) ?hr ?hp (fun _ hk => hk) trivial (Below.refl _ _) (Nat.le_refl _) (by simp) ?_; (case hd => rfl); (case hg => rfl); (case hr => first | (go_simp; done) | (go_simp; rfl)); (case hp => exact (Reps.none _ _)); intro v192 w44 ho45 hb hg_ hnew_; clear hg_ hnew_; (first | rw [← Ny191.out] at ho45 | (simp only [Int.reduceToNat] at ho45; rw [← Ny191.out] at ho45)); have n0_ := Aside0.mk (Kd.R_lower ho45 (below_size (by repeat (first | (with_reducible first | exact HB.out | apply below_alloc | apply pw_below_drewN | apply below_drew1) | exact HB.out)))); have n1_ := Aside0.mk (below_step (by repeat (first | (with_reducible first | exact HB.out | apply below_alloc | apply pw_below_drewN | apply below_drew1) | exact HB.out)) hb); clear HB; have HO193 := n0_; have HB := n1_; clear n0_ n1_; clear hb ho45) | ((with_reducible refine gate_builtin (b := .append) (xs := #[.tmp 23, .tmp 24]) rfl ?_); (try (refine gate_guard (by rfl) ?_; dsimp only)); at_builtin; refine Kd.R_append_rows (Kd.int .u8) (w0 := w) w.heap.size rfl (.tmp 23) (.tmp 24) 22 5 (.int .u8 0) 1 rfl Try.underlying22 info5 rfl (by decide) (by omega) v192 y191 l0 _ _ _ (fun _ => True) (fun _ => False) rfl rfl ?aO ?aR (fun _ _ h => h) (fun _ h => h.elim) ?aF ?aB ?aS ?aL ?_; (case aR => repeat (first | exact (Kd.C_below HR0.out HB.out) | (with_reducible refine Kd.C_alloc ?_ _) | (with_reducible refine Kd.C_drewN ?_ _) | (with_reducible refine Kd.C_drew ?_))); (case aB => exact (by repeat (first | (with_reducible first | exact HB.out | apply below_alloc | apply pw_below_drewN | apply below_drew1) | exact HB.out))); (case aF => exact (fun _ _ => trivial)); (case aO => exact (by (with_reducible repeat (first | apply Kd.R_alloc | apply Kd.R_drewN | apply Kd.R_drew)); exact HO193.out)); (case aS => exact (below_size (by repeat (first | (with_reducible first | exact HB.out | apply below_alloc | apply pw_below_drewN | apply below_drew1) | exact HB.out)))); (case aL => have := LMc9.out; omega); intro v195 w46 ho hb hg hat; rw [← Ny194.out] at ho; have n0_ := Aside0.mk (hb); have n1_ := Aside0.mk (ho); clear HB; clear HO193; have HB := n0_; have HO196 := n1_; clear n0_ n1_; clear ho hb hg hat) | ((with_reducible refine gate_builtin (b := .append) (xs := #[.tmp 25, .tmp 27]) rfl ?_); (try (refine gate_guard (by rfl) ?_; dsimp only)); at_builtin; refine Kd.R_append (Kd.int .u8) (w0 := w) w.heap.size rfl (.tmp 25) (.tmp 27) 22 5 (.int .u8 0) 1 rfl Try.underlying22 info5 rfl (by decide) (by omega) v195 y194 (Int.tmod a2 128) [.int .u8 (Int.tmod a2 128)] (fun _ => True) (fun _ => False) rfl rfl ?aP (fun _ hk => hk.elim) ?aF ?aO ?aB ?aS ?aL ?_; (case aP => exact rfl); (case aB => exact (by repeat (first | (with_reducible first | exact HB.out | apply below_alloc | apply pw_below_drewN | apply below_drew1) | exact HB.out))); (case aF => exact (fun _ _ => trivial)); (case aO => exact (by (with_reducible repeat (first | apply Kd.R_alloc | apply Kd.R_drewN | apply Kd.R_drew)); exact HO196.out)); (case aS => exact (below_size (by repeat (first | (with_reducible first | exact HB.out | apply below_alloc | apply pw_below_drewN | apply below_drew1) | exact HB.out)))); (case aL => have := LMc10.out; omega); intro v198 w47 ho hb hg hat; rw [← Ny197.out] at ho; have n0_ := Aside0.mk (hb); have n1_ := Aside0.mk (ho); clear HB; clear HO196; have HB := n0_; have HO199 := n1_; clear n0_ n1_; clear ho hb hg hat) | ((with_reducible refine gate_builtin (b := .append) (xs := #[.tmp 28, .tmp 29]) rfl ?_); (try (refine gate_guard (by rfl) ?_; dsimp only)); at_builtin; refine Kd.R_append_rows (Kd.int .u8) (w0 := w) w.heap.size rfl (.tmp 28) (.tmp 29) 22 5 (.int .u8 0) 1 rfl Try.underlying22 info5 rfl (by decide) (by omega) v198 y197 l1 _ _ _ (fun _ => True) (fun _ => False) rfl rfl ?aO ?aR (fun _ _ h => h) (fun _ h => h.elim) ?aF ?aB ?aS ?aL ?_; (case aR => repeat (first | exact (Kd.C_below HR1.out HB.out) | (with_reducible refine Kd.C_alloc ?_ _) | (with_reducible refine Kd.C_drewN ?_ _) | (with_reducible refine Kd.C_drew ?_))); (case aB => exact (by repeat (first | (with_reducible first | exact HB.out | apply below_alloc | apply pw_below_drewN | apply below_drew1) | exact HB.out))); (case aF => exact (fun _ _ => trivial)); (case aO => exact (by (with_reducible repeat (first | apply Kd.R_alloc | apply Kd.R_drewN | apply Kd.R_drew)); exact HO199.out)); (case aS => exact (below_size (by repeat (first | (with_reducible first | exact HB.out | apply below_alloc | apply pw_below_drewN | apply below_drew1) | exact HB.out)))); (case aL => have := LMc11.out; omega); intro v201 w48 ho hb hg hat; rw [← Ny200.out] at ho; have n0_ := Aside0.mk (hb); have n1_ := Aside0.mk (ho); clear HB; clear HO199; have HB := n0_; have HO202 := n1_; clear n0_ n1_; clear ho hb hg hat) | ((with_reducible refine gate_dst (N := 32) rfl ?_); (try (refine gate_guard (by rfl) ?_; dsimp only)); refine Kd.R_lit (Kd.int .u8) _ 5 ?hg (N := 32) ?hd (xs := ([Int.tmod a2 128] : List Int)) (inner := [.int .u8 (Int.tmod a2 128)]) (ok := fun _ => True) (okp := fun _ => True) ?hr ?hp (fun _ hk => hk) trivial (Below.refl _ _) (Nat.le_refl _) (by simp) ?_; (case hd => rfl); (case hg => rfl); (case hr => first | (go_simp; done) | (go_simp; rfl)); (case hp => exact (Reps.one (show Kd.M (Kd.int .u8) _ _ _ (Int.tmod a2 128) [.int .u8 (Int.tmod a2 128)] from rfl) (Reps.none _ _))); intro v204 w49 ho50 hb hg_ hnew_; clear hg_ hnew_; (first | rw [← Ny203.out] at ho50 | (simp only [Int.reduceToNat] at ho50; rw [← Ny203.out] at ho50)); have n0_ := Aside0.mk (Kd.R_elder' (by (with_reducible repeat (first | apply Kd.R_alloc | apply Kd.R_drewN | apply Kd.R_drew)); exact HO202.out) (Kd.R_base ho50) hb); have n1_ := Aside0.mk (Kd.R_lower (Kd.R_new' ho50 (Kd.R_lt (by (with_reducible repeat (first | apply Kd.R_alloc | apply Kd.R_drewN | apply Kd.R_drew)); exact HO202.out))) (below_size (by repeat (first | (with_reducible first | exact HB.out | apply below_alloc | apply pw_below_drewN | apply below_drew1) | exact HB.out)))); have n2_ := Aside0.mk (below_step (by repeat (first | (with_reducible first | exact HB.out | apply below_alloc | apply pw_below_drewN | apply below_drew1) | exact HB.out)) hb); clear HO202; clear HB; have HO202 := n0_; have HO205 := n1_; have HB := n2_; clear n0_ n1_ n2_; clear hb ho50) | ((with_reducible refine gate_builtin (b := .append) (xs := #[.tmp 32, .tmp 33]) rfl ?_); (try (refine gate_guard (by rfl) ?_; dsimp only)); at_builtin; refine Kd.R_append_rows (Kd.int .u8) (w0 := w) w.heap.size rfl (.tmp 32) (.tmp 33) 22 5 (.int .u8 0) 1 rfl Try.underlying22 info5 rfl (by decide) (by omega) v204 y203 l1 _ _ _ (fun k_ => some k_ ≠ (v201 : Value).ownBlock) (fun _ => False) rfl rfl ?aO ?aR (fun _ _ h => h) (fun _ h => h.elim) ?aF ?aB ?aS ?aL ?_; (case aR => repeat (first | exact (Kd.C_below HR1.out HB.out) | (with_reducible refine Kd.C_alloc ?_ _) | (with_reducible refine Kd.C_drewN ?_ _) | (with_reducible refine Kd.C_drew ?_))); (case aB => exact (by repeat (first | (with_reducible first | exact HB.out | apply below_alloc | apply pw_below_drewN | apply below_drew1) | exact HB.out))); (case aF => exact (fun k_ hk => Kd.fresh' (Kd.R_lt (by (with_reducible repeat (first | apply Kd.R_alloc | apply Kd.R_drewN | apply Kd.R_drew)); exact HO202.out)) k_ hk)); (case aO => exact (by (with_reducible repeat (first | apply Kd.R_alloc | apply Kd.R_drewN | apply Kd.R_drew)); exact Kd.R_mono HO205.out (fun _ hk => hk.2))); (case aS => exact (below_size (by repeat (first | (with_reducible first | exact HB.out | apply below_alloc | apply pw_below_drewN | apply below_drew1) | exact HB.out)))); (case aL => have := LMc12.out; omega); intro v207 w51 ho hb hg hat; rw [← Ny206.out] at ho; have n0_ := Aside0.mk (Kd.R_after (ok := (fun _ => True)) (by (with_reducible repeat (first | apply Kd.R_alloc | apply Kd.R_drewN | apply Kd.R_drew)); exact HO202.out) hg hat); have n1_ := Aside0.mk (hb); have n2_ := Aside0.mk (ho); clear HO202; clear HB; clear HO205; have HO202 := n0_; have HB := n1_; have HO208 := n2_; clear n0_ n1_ n2_; clear ho hb hg hat; obtain ⟨Ao52, co52, eo52⟩ := Kd.R_slice HO202.out; subst eo52; obtain ⟨Ao53, co53, eo53⟩ := Kd.R_slice HO208.out; subst eo53))
                        have n0_ := Aside0.mk (Kd.R_drew HO202.out)
                        have n1_ := Aside0.mk (Kd.R_drew HO208.out)
                        have n2_ := Aside0.mk (below_drew1 HB.out)
                        clear HO202
                        clear HO208
                        clear HB
                        have HO202 := n0_
                        have HO208 := n1_
                        have HB := n2_
                        clear n0_ n1_ n2_
                        refine start_ (n := 26) (S := fun w' => Below w.heap.size w w' ∧ (convert 22 9 (Value.slice Ao52 y200.length co52)).run Try.prog w' = Result.ok (Value.string (strOfNums y200)) w') (ds := []) #[false, false, false, false, false, false, false, false, false, false, false, false, false, false, false, false, false, false, false, false, false, false, false, false, false, false] (by kernel_rfl) rfl rfl ⟨HB.out, own_string (P := Try.prog) Try.underlying22 Try.underlying5 Try.underlying9 (Kd.own_of_R HO202.out)⟩ (fun hHeld => ?_); refine with_tabW flaillaw01_UtfParts.tab7 flaillaw01_UtfParts.bits7 (fun HT_ HW_ => ?_)
                        generalize w51.drew = w54 at HO202 HO208 HB hHeld ⊢
                        refine pure_ (i := 0) (N := some 35) (v := ?_) (a' := ?_) #[true, false, false, false, false, false, false, false, false, false, false, false, false, false, false, false, false, false, false, false, false, false, false, false, false, false] rfl rfl (any_of HT_.out (by kernel_rfl)) (fun _ _ _ h => h) (Or.inl ⟨by rfl, ?_⟩) ?_ ?_
                        rotate_left
                        · intro w'
                          go_simp
                          with_reducible rfl
                        rotate_left
                        · simp only [Act.put, List.setIfInBounds_toArray, List.set_cons_zero, List.set_cons_succ, i64_w, i32_w]
                          rfl
                        refine pure_ (i := 1) (N := some 36) (v := ?_) (a' := ?_) #[true, true, false, false, false, false, false, false, false, false, false, false, false, false, false, false, false, false, false, false, false, false, false, false, false, false] rfl rfl (any_of HT_.out (by kernel_rfl)) (fun _ _ _ h => h) (Or.inl ⟨by rfl, ?_⟩) ?_ ?_
                        rotate_left
                        · intro w'
                          go_simp
                          with_reducible rfl
                        rotate_left
                        · simp only [Act.put, List.setIfInBounds_toArray, List.set_cons_zero, List.set_cons_succ, i64_w, i32_w]
                          rfl
                        refine pure_ (i := 2) (N := some 37) (v := ?_) (a' := ?_) #[true, true, true, false, false, false, false, false, false, false, false, false, false, false, false, false, false, false, false, false, false, false, false, false, false, false] rfl rfl (any_of HT_.out (by kernel_rfl)) (fun _ _ _ h => h) (Or.inl ⟨by rfl, ?_⟩) ?_ ?_
                        rotate_left
                        · intro w'
                          go_simp
                          with_reducible rfl
                        rotate_left
                        · simp only [Act.put, List.setIfInBounds_toArray, List.set_cons_zero, List.set_cons_succ, i64_w, i32_w]
                          rfl
                        refine pure_ (i := 4) (N := some 39) (v := ?_) (a' := ?_) #[true, true, true, false, true, false, false, false, false, false, false, false, false, false, false, false, false, false, false, false, false, false, false, false, false, false] rfl rfl (any_of HT_.out (by kernel_rfl)) (fun _ _ _ h => h) (Or.inl ⟨by rfl, ?_⟩) ?_ ?_
                        rotate_left
                        · intro w'
                          go_simp
                          with_reducible rfl
                        rotate_left
                        · simp only [Act.put, List.setIfInBounds_toArray, List.set_cons_zero, List.set_cons_succ, i64_w, i32_w]
                          rfl
                        refine pure_ (i := 6) (N := some 41) (v := ?_) (a' := ?_) #[true, true, true, false, true, false, true, false, false, false, false, false, false, false, false, false, false, false, false, false, false, false, false, false, false, false] rfl rfl (any_of HT_.out (by kernel_rfl)) (fun _ _ _ h => h) (Or.inl ⟨by rfl, ?_⟩) ?_ ?_
                        rotate_left
                        · intro w'
                          go_simp
                          with_reducible rfl
                        rotate_left
                        · simp only [Act.put, List.setIfInBounds_toArray, List.set_cons_zero, List.set_cons_succ, i64_w, i32_w]
                          rfl
                        refine one_ (i := 3) (N := some 38) #[true, true, true, true, true, false, true, false, false, false, false, false, false, false, false, false, false, false, false, false, false, false, false, false, false, false] rfl rfl (one_of HT_.out (by kernel_rfl)) (by decide) (fun K hK => ?_)
                        refine goes_ Try.func11 (by kernel_rfl) rfl #[.slice Ao52 y200.length co52] (by rfl) rfl rfl (by (try simp only [List.map_toArray, List.map_cons, List.map_nil]); first | done | rfl | (simp only [List.length_drop, List.length_take]; rfl)) ?_
                        with_reducible refine (utf_Decode.calls _ _ y200 t209 _ ?side1 ?side2 A14.out).mono ?_
                        (case side1 => repeat (first | exact (Kd.R_reads' HO202.out).2.2 | (with_reducible refine Kd.C_alloc ?_ _) | (with_reducible refine Kd.C_drewN ?_ _) | (with_reducible refine Kd.C_drew ?_)))
                        (case side2 => exact (Kd.R_reads' HO202.out).2.1)
                        rintro e w55 ⟨rfl, hb⟩
                        refine ⟨_, rfl, ?_⟩
                        have n0_ := Aside0.mk (Kd.R_below (by (with_reducible repeat (first | apply Kd.R_alloc | apply Kd.R_drewN | apply Kd.R_drew)); exact HO202.out) hb)
                        have n1_ := Aside0.mk (Kd.R_below (by (with_reducible repeat (first | apply Kd.R_alloc | apply Kd.R_drewN | apply Kd.R_drew)); exact HO208.out) hb)
                        have n2_ := Aside0.mk (below_step (by repeat (first | (with_reducible first | exact HB.out | apply below_alloc | apply pw_below_drewN | apply below_drew1) | exact HB.out)) hb)
                        clear HO202
                        clear HO208
                        clear HB
                        have HO202 := n0_
                        have HO208 := n1_
                        have HB := n2_
                        clear n0_ n1_ n2_
                        (try clear hb)
                        (try clear hb2)
                        (try clear hk)
                        (try clear hi)
                        refine hK.out _ _ ⟨HB.out, own_string (P := Try.prog) Try.underlying22 Try.underlying5 Try.underlying9 (Kd.own_of_R HO202.out)⟩ (fun hHeld => ?_)
                        clear hK K
                        refine norm_ (a' := ?_) ?_ ?_
                        rotate_left
                        · show Act.put _ (some 38) _ = _
                          simp only [Act.put, List.setIfInBounds_toArray, List.set_cons_zero, List.set_cons_succ, i64_w, i32_w]
                          rfl
                        refine one_ (i := 5) (N := some 40) #[true, true, true, true, true, true, true, false, false, false, false, false, false, false, false, false, false, false, false, false, false, false, false, false, false, false] rfl rfl (one_of HT_.out (by kernel_rfl)) (by decide) (fun K hK => ?_)
                        refine goes_ Try.func11 (by kernel_rfl) rfl #[.slice A0 l0.length c0] (by rfl) rfl rfl (by (try simp only [List.map_toArray, List.map_cons, List.map_nil]); first | done | rfl | (simp only [List.length_drop, List.length_take]; rfl)) ?_
                        with_reducible refine (utf_Decode.calls _ _ l0 t210 _ ?side1 ?side2 A15.out).mono ?_
                        (case side1 => repeat (first | exact (Kd.C_below HR0.out HB.out) | (with_reducible refine Kd.C_alloc ?_ _) | (with_reducible refine Kd.C_drewN ?_ _) | (with_reducible refine Kd.C_drew ?_)))
                        (case side2 => exact HC0.out)
                        rintro e w56 ⟨rfl, hb⟩
                        refine ⟨_, rfl, ?_⟩
                        have n0_ := Aside0.mk (Kd.R_below (by (with_reducible repeat (first | apply Kd.R_alloc | apply Kd.R_drewN | apply Kd.R_drew)); exact HO202.out) hb)
                        have n1_ := Aside0.mk (Kd.R_below (by (with_reducible repeat (first | apply Kd.R_alloc | apply Kd.R_drewN | apply Kd.R_drew)); exact HO208.out) hb)
                        have n2_ := Aside0.mk (below_step (by repeat (first | (with_reducible first | exact HB.out | apply below_alloc | apply pw_below_drewN | apply below_drew1) | exact HB.out)) hb)
                        clear HO202
                        clear HO208
                        clear HB
                        have HO202 := n0_
                        have HO208 := n1_
                        have HB := n2_
                        clear n0_ n1_ n2_
                        (try clear hb)
                        (try clear hb2)
                        (try clear hk)
                        (try clear hi)
                        refine hK.out _ _ ⟨HB.out, own_string (P := Try.prog) Try.underlying22 Try.underlying5 Try.underlying9 (Kd.own_of_R HO202.out)⟩ (fun hHeld => ?_)
                        clear hK K
                        refine norm_ (a' := ?_) ?_ ?_
                        rotate_left
                        · show Act.put _ (some 40) _ = _
                          simp only [Act.put, List.setIfInBounds_toArray, List.set_cons_zero, List.set_cons_succ, i64_w, i32_w]
                          rfl
                        refine one_ (i := 7) (N := some 42) #[true, true, true, true, true, true, true, true, false, false, false, false, false, false, false, false, false, false, false, false, false, false, false, false, false, false] rfl rfl (one_of HT_.out (by kernel_rfl)) (by decide) (fun K hK => ?_)
                        refine goes_ Try.func11 (by kernel_rfl) rfl #[.slice Ao53 y206.length co53] (by rfl) rfl rfl (by (try simp only [List.map_toArray, List.map_cons, List.map_nil]); first | done | rfl | (simp only [List.length_drop, List.length_take]; rfl)) ?_
                        with_reducible refine (utf_Decode.calls _ _ y206 t211 _ ?side1 ?side2 A16.out).mono ?_
                        (case side1 => repeat (first | exact (Kd.R_reads' HO208.out).2.2 | (with_reducible refine Kd.C_alloc ?_ _) | (with_reducible refine Kd.C_drewN ?_ _) | (with_reducible refine Kd.C_drew ?_)))
                        (case side2 => exact (Kd.R_reads' HO208.out).2.1)
                        rintro e w57 ⟨rfl, hb⟩
                        refine ⟨_, rfl, ?_⟩
                        have n0_ := Aside0.mk (Kd.R_below (by (with_reducible repeat (first | apply Kd.R_alloc | apply Kd.R_drewN | apply Kd.R_drew)); exact HO202.out) hb)
                        have n1_ := Aside0.mk (Kd.R_below (by (with_reducible repeat (first | apply Kd.R_alloc | apply Kd.R_drewN | apply Kd.R_drew)); exact HO208.out) hb)
                        have n2_ := Aside0.mk (below_step (by repeat (first | (with_reducible first | exact HB.out | apply below_alloc | apply pw_below_drewN | apply below_drew1) | exact HB.out)) hb)
                        clear HO202
                        clear HO208
                        clear HB
                        have HO202 := n0_
                        have HO208 := n1_
                        have HB := n2_
                        clear n0_ n1_ n2_
                        (try clear hb)
                        (try clear hb2)
                        (try clear hk)
                        (try clear hi)
                        refine hK.out _ _ ⟨HB.out, own_string (P := Try.prog) Try.underlying22 Try.underlying5 Try.underlying9 (Kd.own_of_R HO202.out)⟩ (fun hHeld => ?_)
                        clear hK K
                        refine norm_ (a' := ?_) ?_ ?_
                        rotate_left
                        · show Act.put _ (some 42) _ = _
                          simp only [Act.put, List.setIfInBounds_toArray, List.set_cons_zero, List.set_cons_succ, i64_w, i32_w]
                          rfl
                        refine pure_ (i := 8) (N := some 43) (v := ?_) (a' := ?_) #[true, true, true, true, true, true, true, true, true, false, false, false, false, false, false, false, false, false, false, false, false, false, false, false, false, false] rfl rfl (any_of HT_.out (by kernel_rfl)) (fun _ _ _ h => h) (Or.inl ⟨by rfl, ?_⟩) ?_ ?_
                        rotate_left
                        · intro w'
                          go_simp
                          with_reducible rfl
                        rotate_left
                        · simp only [Act.put, List.setIfInBounds_toArray, List.set_cons_zero, List.set_cons_succ, i64_w, i32_w]
                          rfl
                        refine pure_ (i := 9) (N := some 44) (v := ?_) (a' := ?_) #[true, true, true, true, true, true, true, true, true, true, false, false, false, false, false, false, false, false, false, false, false, false, false, false, false, false] rfl rfl (any_of HT_.out (by kernel_rfl)) (fun _ _ _ h => h) (Or.inl ⟨by rfl, ?_⟩) ?_ ?_
                        rotate_left
                        · intro w'
                          go_simp
                          with_reducible rfl
                        rotate_left
                        · simp only [Act.put, List.setIfInBounds_toArray, List.set_cons_zero, List.set_cons_succ, i64_w, i32_w]
                          rfl
                        refine pure_ (i := 10) (N := some 45) (v := ?_) (a' := ?_) #[true, true, true, true, true, true, true, true, true, true, true, false, false, false, false, false, false, false, false, false, false, false, false, false, false, false] rfl rfl (any_of HT_.out (by kernel_rfl)) (fun _ _ _ h => h) (Or.inl ⟨by rfl, ?_⟩) ?_ ?_
                        rotate_left
                        · intro w'
                          go_simp
                          with_reducible rfl
                        rotate_left
                        · simp only [Act.put, List.setIfInBounds_toArray, List.set_cons_zero, List.set_cons_succ, i64_w, i32_w]
                          rfl
                        refine pure_ (i := 11) (N := some 46) (v := ?_) (a' := ?_) #[true, true, true, true, true, true, true, true, true, true, true, true, false, false, false, false, false, false, false, false, false, false, false, false, false, false] rfl rfl (any_of HT_.out (by kernel_rfl)) (fun _ _ _ h => h) (Or.inl ⟨by rfl, ?_⟩) ?_ ?_
                        rotate_left
                        · intro w'
                          go_simp
                          with_reducible rfl
                        rotate_left
                        · simp only [Act.put, List.setIfInBounds_toArray, List.set_cons_zero, List.set_cons_succ, i64_w, i32_w]
                          rfl
                        refine pure_ (i := 12) (N := some 47) (v := ?_) (a' := ?_) #[true, true, true, true, true, true, true, true, true, true, true, true, true, false, false, false, false, false, false, false, false, false, false, false, false, false] rfl rfl (any_of HT_.out (by kernel_rfl)) (fun _ _ _ h => h) (Or.inl ⟨by rfl, ?_⟩) ?_ ?_
                        rotate_left
                        · intro w'
                          go_simp
                          with_reducible rfl
                        rotate_left
                        · simp only [Act.put, List.setIfInBounds_toArray, List.set_cons_zero, List.set_cons_succ, i64_w, i32_w]
                          rfl
                        refine take_ (i := 13) (N := some 48) (v := ?_) (a' := ?_) #[true, true, true, true, true, true, true, true, true, true, true, true, true, true, false, false, false, false, false, false, false, false, false, false, false, false] rfl rfl (take_ofW HT_.out HW_.out (by kernel_rfl)) (fun _ _ _ h => h) (Or.inl ⟨by rfl, ?_⟩) hHeld ?_ ?_
                        rotate_left
                        · intro w' hw_
                          have hcv0_ := Kd.C_string (P := Try.prog) (A := A0) (c := c0) Try.underlying22 Try.underlying5 Try.underlying9 (Kd.C_below HR0.out hw_.1)
                          have hcw0_ := hw_.2
                          clear hw_
                          go_simp
                          with_reducible rfl
                        rotate_left
                        · simp only [Act.put, List.setIfInBounds_toArray, List.set_cons_zero, List.set_cons_succ, i64_w, i32_w]
                          rfl
                        refine pure_ (i := 15) (N := some 50) (v := ?_) (a' := ?_) #[true, true, true, true, true, true, true, true, true, true, true, true, true, true, false, true, false, false, false, false, false, false, false, false, false, false] rfl rfl (any_of HT_.out (by kernel_rfl)) (fun _ _ _ h => h) (Or.inl ⟨by rfl, ?_⟩) ?_ ?_
                        rotate_left
                        · intro w'
                          go_simp
                          with_reducible rfl
                        rotate_left
                        · simp only [Act.put, List.setIfInBounds_toArray, List.set_cons_zero, List.set_cons_succ, i64_w, i32_w]
                          rfl
                        refine take_ (i := 16) (N := some 51) (v := ?_) (a' := ?_) #[true, true, true, true, true, true, true, true, true, true, true, true, true, true, false, true, true, false, false, false, false, false, false, false, false, false] rfl rfl (take_ofW HT_.out HW_.out (by kernel_rfl)) (fun _ _ _ h => h) (Or.inl ⟨by rfl, ?_⟩) hHeld ?_ ?_
                        rotate_left
                        · intro w' hw_
                          have hcv0_ := Kd.C_string (P := Try.prog) (A := A0) (c := c0) Try.underlying22 Try.underlying5 Try.underlying9 (Kd.C_below HR0.out hw_.1)
                          have hcw0_ := hw_.2
                          clear hw_
                          go_simp
                          with_reducible rfl
                        rotate_left
                        · simp only [Act.put, List.setIfInBounds_toArray, List.set_cons_zero, List.set_cons_succ, i64_w, i32_w]
                          rfl
                        refine one_ (i := 14) (N := some 49) #[true, true, true, true, true, true, true, true, true, true, true, true, true, true, true, true, true, false, false, false, false, false, false, false, false, false] rfl rfl (one_of HT_.out (by kernel_rfl)) (by decide) (fun K hK => ?_)
                        refine goes_ Try.func13 (by kernel_rfl) rfl #[.string (strOfNums y200)] (by rfl) rfl rfl (by (try simp only [List.map_toArray, List.map_cons, List.map_nil]); first | done | rfl | (simp only [List.length_drop, List.length_take]; rfl)) ?_
                        with_reducible refine (utf_Right.calls (strOfNums y200) t212 _ A19.out).mono ?_
                        rintro e w59 ⟨rfl, hb⟩
                        refine ⟨_, rfl, ?_⟩
                        have n0_ := Aside0.mk (Kd.R_below (by (with_reducible repeat (first | apply Kd.R_alloc | apply Kd.R_drewN | apply Kd.R_drew)); exact HO202.out) hb)
                        have n1_ := Aside0.mk (Kd.R_below (by (with_reducible repeat (first | apply Kd.R_alloc | apply Kd.R_drewN | apply Kd.R_drew)); exact HO208.out) hb)
                        have n2_ := Aside0.mk (below_step (by repeat (first | (with_reducible first | exact HB.out | apply below_alloc | apply pw_below_drewN | apply below_drew1) | exact HB.out)) hb)
                        clear HO202
                        clear HO208
                        clear HB
                        have HO202 := n0_
                        have HO208 := n1_
                        have HB := n2_
                        clear n0_ n1_ n2_
                        (try clear hb)
                        (try clear hb2)
                        (try clear hk)
                        (try clear hi)
                        refine hK.out _ _ ⟨HB.out, own_string (P := Try.prog) Try.underlying22 Try.underlying5 Try.underlying9 (Kd.own_of_R HO202.out)⟩ (fun hHeld => ?_)
                        clear hK K
                        refine norm_ (a' := ?_) ?_ ?_
                        rotate_left
                        · show Act.put _ (some 49) _ = _
                          simp only [Act.put, List.setIfInBounds_toArray, List.set_cons_zero, List.set_cons_succ, i64_w, i32_w]
                          rfl
                        refine one_ (i := 17) (N := some 52) #[true, true, true, true, true, true, true, true, true, true, true, true, true, true, true, true, true, true, false, false, false, false, false, false, false, false] rfl rfl (one_of HT_.out (by kernel_rfl)) (by decide) (fun K hK => ?_)
                        refine goes_ Try.func13 (by kernel_rfl) rfl #[.string (strOfNums l0)] (by rfl) rfl rfl (by (try simp only [List.map_toArray, List.map_cons, List.map_nil]); first | done | rfl | (simp only [List.length_drop, List.length_take]; rfl)) ?_
                        with_reducible refine (utf_Right.calls (strOfNums l0) false _ A20.out).mono ?_
                        rintro e w62 ⟨rfl, hb⟩
                        refine ⟨_, rfl, ?_⟩
                        have n0_ := Aside0.mk (Kd.R_below (by (with_reducible repeat (first | apply Kd.R_alloc | apply Kd.R_drewN | apply Kd.R_drew)); exact HO202.out) hb)
                        have n1_ := Aside0.mk (Kd.R_below (by (with_reducible repeat (first | apply Kd.R_alloc | apply Kd.R_drewN | apply Kd.R_drew)); exact HO208.out) hb)
                        have n2_ := Aside0.mk (below_step (by repeat (first | (with_reducible first | exact HB.out | apply below_alloc | apply pw_below_drewN | apply below_drew1) | exact HB.out)) hb)
                        clear HO202
                        clear HO208
                        clear HB
                        have HO202 := n0_
                        have HO208 := n1_
                        have HB := n2_
                        clear n0_ n1_ n2_
                        (try clear hb)
                        (try clear hb2)
                        (try clear hk)
                        (try clear hi)
                        refine hK.out _ _ ⟨HB.out, own_string (P := Try.prog) Try.underlying22 Try.underlying5 Try.underlying9 (Kd.own_of_R HO202.out)⟩ (fun hHeld => ?_)
                        clear hK K
                        refine norm_ (a' := ?_) ?_ ?_
                        rotate_left
                        · show Act.put _ (some 52) _ = _
                          simp only [Act.put, List.setIfInBounds_toArray, List.set_cons_zero, List.set_cons_succ, i64_w, i32_w]
                          rfl
                        refine pure_ (i := 18) (N := some 53) (v := ?_) (a' := ?_) #[true, true, true, true, true, true, true, true, true, true, true, true, true, true, true, true, true, true, true, false, false, false, false, false, false, false] rfl rfl (any_of HT_.out (by kernel_rfl)) (fun _ _ _ h => h) (Or.inl ⟨by rfl, ?_⟩) ?_ ?_
                        rotate_left
                        · intro w'
                          go_simp
                          with_reducible rfl
                        rotate_left
                        · simp only [Act.put, List.setIfInBounds_toArray, List.set_cons_zero, List.set_cons_succ, i64_w, i32_w]
                          rfl
                        refine pure_ (i := 19) (N := some 54) (v := undef) (a' := ?_) #[true, true, true, true, true, true, true, true, true, true, true, true, true, true, true, true, true, true, true, true, false, false, false, false, false, false] rfl rfl (any_of HT_.out (by kernel_rfl)) (fun _ _ _ h => h) (Or.inr ⟨by rfl, rfl⟩) ?_ ?_
                        rotate_left
                        · simp only [Act.put, List.setIfInBounds_toArray, List.set_cons_zero, List.set_cons_succ, i64_w, i32_w]
                          rfl
                        refine pure_ (i := 20) (N := some 55) (v := undef) (a' := ?_) #[true, true, true, true, true, true, true, true, true, true, true, true, true, true, true, true, true, true, true, true, true, false, false, false, false, false] rfl rfl (any_of HT_.out (by kernel_rfl)) (fun _ _ _ h => h) (Or.inr ⟨by rfl, rfl⟩) ?_ ?_
                        rotate_left
                        · simp only [Act.put, List.setIfInBounds_toArray, List.set_cons_zero, List.set_cons_succ, i64_w, i32_w]
                          rfl
                        refine pure_ (i := 21) (N := some 56) (v := undef) (a' := ?_) #[true, true, true, true, true, true, true, true, true, true, true, true, true, true, true, true, true, true, true, true, true, true, false, false, false, false] rfl rfl (any_of HT_.out (by kernel_rfl)) (fun _ _ _ h => h) (Or.inr ⟨by rfl, rfl⟩) ?_ ?_
                        rotate_left
                        · simp only [Act.put, List.setIfInBounds_toArray, List.set_cons_zero, List.set_cons_succ, i64_w, i32_w]
                          rfl
                        refine pure_ (i := 22) (N := some 57) (v := ?_) (a' := ?_) #[true, true, true, true, true, true, true, true, true, true, true, true, true, true, true, true, true, true, true, true, true, true, true, false, false, false] rfl rfl (any_of HT_.out (by kernel_rfl)) (fun _ _ _ h => h) (Or.inl ⟨by rfl, ?_⟩) ?_ ?_
                        rotate_left
                        · intro w'
                          go_simp
                          with_reducible rfl
                        rotate_left
                        · simp only [Act.put, List.setIfInBounds_toArray, List.set_cons_zero, List.set_cons_succ, i64_w, i32_w]
                          rfl
                        refine pure_ (i := 23) (N := some 58) (v := ?_) (a' := ?_) #[true, true, true, true, true, true, true, true, true, true, true, true, true, true, true, true, true, true, true, true, true, true, true, true, false, false] rfl rfl (any_of HT_.out (by kernel_rfl)) (fun _ _ _ h => h) (Or.inl ⟨by rfl, ?_⟩) ?_ ?_
                        rotate_left
                        · intro w'
                          go_simp
                          with_reducible rfl
                        rotate_left
                        · simp only [Act.put, List.setIfInBounds_toArray, List.set_cons_zero, List.set_cons_succ, i64_w, i32_w]
                          rfl
                        refine pure_ (i := 24) (N := some 59) (v := ?_) (a' := ?_) #[true, true, true, true, true, true, true, true, true, true, true, true, true, true, true, true, true, true, true, true, true, true, true, true, true, false] rfl rfl (any_of HT_.out (by kernel_rfl)) (fun _ _ _ h => h) (Or.inl ⟨by rfl, ?_⟩) ?_ ?_
                        rotate_left
                        · intro w'
                          go_simp
                          with_reducible rfl
                        rotate_left
                        · simp only [Act.put, List.setIfInBounds_toArray, List.set_cons_zero, List.set_cons_succ, i64_w, i32_w]
                          rfl
                        refine pure_ (i := 25) (N := some 6) (v := ?_) (a' := ?_) #[true, true, true, true, true, true, true, true, true, true, true, true, true, true, true, true, true, true, true, true, true, true, true, true, true, true] rfl rfl (any_of HT_.out (by kernel_rfl)) (fun _ _ _ h => h) (Or.inl ⟨by rfl, ?_⟩) ?_ ?_
                        rotate_left
                        · intro w'
                          go_simp
                          with_reducible rfl
                        rotate_left
                        · simp only [Act.put, List.setIfInBounds_toArray, List.set_cons_zero, List.set_cons_succ, i64_w, i32_w]
                          rfl
                        refine done_ (done_of HT_.out (by kernel_rfl)) ?_
                        try go_wp2
                        go_ret
                        exact ⟨by first | rfl | (simp [errW_none, errW_some] <;> rfl) | (simp [*, errW_none, errW_some] <;> rfl), by repeat (first | (with_reducible first | exact HB.out | apply below_alloc | apply pw_below_drewN | apply below_drew1) | exact HB.out)⟩
                    · rw [if_neg c18] at H
                      have c18b0 : (t209.toList == (t210 ++ t211).toList) = false := beq_eq_false_iff_ne.mpr c18
                      have c18b1 : (t209.toList != (t210 ++ t211).toList) = true := bne_iff_ne.mpr c18
                      obtain rfl := Option.some.inj H
                      try go_wp2_with (first | ((with_reducible refine gate_dst (N := 23) rfl ?_); (try (refine gate_guard (by rfl) ?_; dsimp only)); refine Kd.R_lit (Kd.int .u8) _ 5 ?hg (N := 23) ?hd (xs := ([] : List Int)) (inner := []) (ok := fun _ => True) (okp := fun _ => True) ?hr ?hp (fun _ hk => hk) trivial (Below.refl _ _) (Nat.le_refl _) (by simp) ?_; (case hd => rfl); (case hg => rfl); (case hr => first | (go_simp; done) | (go_simp; rfl)); (case hp => exact (Reps.none _ _)); intro v192 w63 ho64 hb hg_ hnew_; clear hg_ hnew_; (first | rw [← Ny191.out] at ho64 | (simp only [Int.reduceToNat] at ho64; rw [← Ny191.out] at ho64)); have n0_ := Aside0.mk (Kd.R_lower ho64 (below_size (by repeat (first | (with_reducible first | exact HB.out | apply below_alloc | apply pw_below_drewN | apply below_drew1) | exact HB.out)))); have n1_ := Aside0.mk (below_step (by repeat (first | (with_reducible first | exact HB.out | apply below_alloc | apply pw_below_drewN | apply below_drew1) | exact HB.out)) hb); clear HB; have HO193 := n0_; have HB := n1_; clear n0_ n1_; clear hb ho64) | ((with_reducible refine gate_builtin (b := .append) (xs := #[.tmp 23, .tmp 24]) rfl ?_); (try (refine gate_guard (by rfl) ?_; dsimp only)); at_builtin; refine Kd.R_append_rows (Kd.int .u8) (w0 := w) w.heap.size rfl (.tmp 23) (.tmp 24) 22 5 (.int .u8 0) 1 rfl Try.underlying22 info5 rfl (by decide) (by omega) v192 y191 l0 _ _ _ (fun _ => True) (fun _ => False) rfl rfl ?aO ?aR (fun _ _ h => h) (fun _ h => h.elim) ?aF ?aB ?aS ?aL ?_; (case aR => repeat (first | exact (Kd.C_below HR0.out HB.out) | (with_reducible refine Kd.C_alloc ?_ _) | (with_reducible refine Kd.C_drewN ?_ _) | (with_reducible refine Kd.C_drew ?_))); (case aB => exact (by repeat (first | (with_reducible first | exact HB.out | apply below_alloc | apply pw_below_drewN | apply below_drew1) | exact HB.out))); (case aF => exact (fun _ _ => trivial)); (case aO => exact (by (with_reducible repeat (first | apply Kd.R_alloc | apply Kd.R_drewN | apply Kd.R_drew)); exact HO193.out)); (case aS => exact (below_size (by repeat (first | (with_reducible first | exact HB.out | apply below_alloc | apply pw_below_drewN | apply below_drew1) | exact HB.out)))); (case aL => have := LMc9.out; omega); intro v195 w65 ho hb hg hat; rw [← Ny194.out] at ho; have n0_ := Aside0.mk (hb); have n1_ := Aside0.mk (ho); clear HB; clear HO193; have HB := n0_; have HO196 := n1_; clear n0_ n1_; clear ho hb hg hat) | ((with_reducible refine gate_builtin (b := .append) (xs := #[.tmp 25, .tmp 27]) rfl ?_); (try (refine gate_guard (by rfl) ?_; dsimp only)); at_builtin; refine Kd.R_append (Kd.int .u8) (w0 := w) w.heap.size rfl (.tmp 25) (.tmp 27) 22 5 (.int .u8 0) 1 rfl Try.underlying22 info5 rfl (by decide) (by omega) v195 y194 (Int.tmod a2 128) [.int .u8 (Int.tmod a2 128)] (fun _ => True) (fun _ => False) rfl rfl ?aP (fun _ hk => hk.elim) ?aF ?aO ?aB ?aS ?aL ?_; (case aP => exact rfl); (case aB => exact (by repeat (first | (with_reducible first | exact HB.out | apply below_alloc | apply pw_below_drewN | apply below_drew1) | exact HB.out))); (case aF => exact (fun _ _ => trivial)); (case aO => exact (by (with_reducible repeat (first | apply Kd.R_alloc | apply Kd.R_drewN | apply Kd.R_drew)); exact HO196.out)); (case aS => exact (below_size (by repeat (first | (with_reducible first | exact HB.out | apply below_alloc | apply pw_below_drewN | apply below_drew1) | exact HB.out)))); (case aL => have := LMc10.out; omega); intro v198 w66 ho hb hg hat; rw [← Ny197.out] at ho; have n0_ := Aside0.mk (hb); have n1_ := Aside0.mk (ho); clear HB; clear HO196; have HB := n0_; have HO199 := n1_; clear n0_ n1_; clear ho hb hg hat) | ((with_reducible refine gate_builtin (b := .append) (xs := #[.tmp 28, .tmp 29]) rfl ?_); (try (refine gate_guard (by rfl) ?_; dsimp only)); at_builtin; refine Kd.R_append_rows (Kd.int .u8) (w0 := w) w.heap.size rfl (.tmp 28) (.tmp 29) 22 5 (.int .u8 0) 1 rfl Try.underlying22 info5 rfl (by decide) (by omega) v198 y197 l1 _ _ _ (fun _ => True) (fun _ => False) rfl rfl ?aO ?aR (fun _ _ h => h) (fun _ h => h.elim) ?aF ?aB ?aS ?aL ?_; (case aR => repeat (first | exact (Kd.C_below HR1.out HB.out) | (with_reducible refine Kd.C_alloc ?_ _) | (with_reducible refine Kd.C_drewN ?_ _) | (with_reducible refine Kd.C_drew ?_))); (case aB => exact (by repeat (first | (with_reducible first | exact HB.out | apply below_alloc | apply pw_below_drewN | apply below_drew1) | exact HB.out))); (case aF => exact (fun _ _ => trivial)); (case aO => exact (by (with_reducible repeat (first | apply Kd.R_alloc | apply Kd.R_drewN | apply Kd.R_drew)); exact HO199.out)); (case aS => exact (below_size (by repeat (first | (with_reducible first | exact HB.out | apply below_alloc | apply pw_below_drewN | apply below_drew1) | exact HB.out)))); (case aL => have := LMc11.out; omega); intro v201 w67 ho hb hg hat; rw [← Ny200.out] at ho; have n0_ := Aside0.mk (hb); have n1_ := Aside0.mk (ho); clear HB; clear HO199; have HB := n0_; have HO202 := n1_; clear n0_ n1_; clear ho hb hg hat) | ((with_reducible refine gate_dst (N := 32) rfl ?_); (try (refine gate_guard (by rfl) ?_; dsimp only)); refine Kd.R_lit (Kd.int .u8) _ 5 ?hg (N := 32) ?hd (xs := ([Int.tmod a2 128] : List Int)) (inner := [.int .u8 (Int.tmod a2 128)]) (ok := fun _ => True) (okp := fun _ => True) ?hr ?hp (fun _ hk => hk) trivial (Below.refl _ _) (Nat.le_refl _) (by simp) ?_; (case hd => rfl); (case hg => rfl); (case hr => first | (go_simp; done) | (go_simp; rfl)); (case hp => exact (Reps.one (show Kd.M (Kd.int .u8) _ _ _ (Int.tmod a2 128) [.int .u8 (Int.tmod a2 128)] from rfl) (Reps.none _ _))); intro v204 w68 ho69 hb hg_ hnew_; clear hg_ hnew_; (first | rw [← Ny203.out] at ho69 | (simp only [Int.reduceToNat] at ho69; rw [← Ny203.out] at ho69)); have n0_ := Aside0.mk (Kd.R_elder' (by (with_reducible repeat (first | apply Kd.R_alloc | apply Kd.R_drewN | apply Kd.R_drew)); exact HO202.out) (Kd.R_base ho69) hb); have n1_ := Aside0.mk (Kd.R_lower (Kd.R_new' ho69 (Kd.R_lt (by (with_reducible repeat (first | apply Kd.R_alloc | apply Kd.R_drewN | apply Kd.R_drew)); exact HO202.out))) (below_size (by repeat (first | (with_reducible first | exact HB.out | apply below_alloc | apply pw_below_drewN | apply below_drew1) | exact HB.out)))); have n2_ := Aside0.mk (below_step (by repeat (first | (with_reducible first | exact HB.out | apply below_alloc | apply pw_below_drewN | apply below_drew1) | exact HB.out)) hb); clear HO202; clear HB; have HO202 := n0_; have HO205 := n1_; have HB := n2_; clear n0_ n1_ n2_; clear hb ho69) | ((with_reducible refine gate_builtin (b := .append) (xs := #[.tmp 32, .tmp 33]) rfl ?_); (try (refine gate_guard (by rfl) ?_; dsimp only)); at_builtin; refine Kd.R_append_rows (Kd.int .u8) (w0 := w) w.heap.size rfl (.tmp 32) (.tmp 33) 22 5 (.int .u8 0) 1 rfl Try.underlying22 info5 rfl (by decide) (by omega) v204 y203 l1 _ _ _ (fun k_ => some k_ ≠ (v201 : Value).ownBlock) (fun _ => False) rfl rfl ?aO ?aR (fun _ _ h => h) (fun _ h => h.elim) ?aF ?aB ?aS ?aL ?_; (case aR => repeat (first | exact (Kd.C_below HR1.out HB.out) | (with_reducible refine Kd.C_alloc ?_ _) | (with_reducible refine Kd.C_drewN ?_ _) | (with_reducible refine Kd.C_drew ?_))); (case aB => exact (by repeat (first | (with_reducible first | exact HB.out | apply below_alloc | apply pw_below_drewN | apply below_drew1) | exact HB.out))); (case aF => exact (fun k_ hk => Kd.fresh' (Kd.R_lt (by (with_reducible repeat (first | apply Kd.R_alloc | apply Kd.R_drewN | apply Kd.R_drew)); exact HO202.out)) k_ hk)); (case aO => exact (by (with_reducible repeat (first | apply Kd.R_alloc | apply Kd.R_drewN | apply Kd.R_drew)); exact Kd.R_mono HO205.out (fun _ hk => hk.2))); (case aS => exact (below_size (by repeat (first | (with_reducible first | exact HB.out | apply below_alloc | apply pw_below_drewN | apply below_drew1) | exact HB.out)))); (case aL => have := LMc12.out; omega); intro v207 w70 ho hb hg hat; rw [← Ny206.out] at ho; have n0_ := Aside0.mk (Kd.R_after (ok := (fun _ => True)) (by (with_reducible repeat (first | apply Kd.R_alloc | apply Kd.R_drewN | apply Kd.R_drew)); exact HO202.out) hg hat); have n1_ := Aside0.mk (hb); have n2_ := Aside0.mk (ho); clear HO202; clear HB; clear HO205; have HO202 := n0_; have HB := n1_; have HO208 := n2_; clear n0_ n1_ n2_; clear ho hb hg hat))
                      have n0_ := Aside0.mk (Kd.R_drew HO202.out)
                      have n1_ := Aside0.mk (Kd.R_drew HO208.out)
                      have n2_ := Aside0.mk (below_drew1 HB.out)
                      clear HO202
                      clear HO208
                      clear HB
                      have HO202 := n0_
                      have HO208 := n1_
                      have HB := n2_
                      clear n0_ n1_ n2_
                      obtain ⟨Ao72, co72, eo72⟩ := Kd.R_slice HO202.out
                      (first | subst eo72 | (injection eo72 with f1_ f2_ f3_; have f4_ := f1_.symm; have f5_ := f3_.symm; clear f1_ f2_ f3_; subst f4_; subst f5_))
                      refine start_ (n := 26) (S := fun w' => True) (ds := []) #[false, false, false, false, false, false, false, false, false, false, false, false, false, false, false, false, false, false, false, false, false, false, false, false, false, false] (by kernel_rfl) rfl rfl trivial (fun hHeld => ?_); refine with_tabW flaillaw01_UtfParts.tab7 flaillaw01_UtfParts.bits7 (fun HT_ HW_ => ?_)
                      generalize w70.drew = w71 at HO202 HO208 HB hHeld ⊢
                      refine pure_ (i := 0) (N := some 35) (v := ?_) (a' := ?_) #[true, false, false, false, false, false, false, false, false, false, false, false, false, false, false, false, false, false, false, false, false, false, false, false, false, false] rfl rfl (any_of HT_.out (by kernel_rfl)) (fun _ _ _ h => h) (Or.inl ⟨by rfl, ?_⟩) ?_ ?_
                      rotate_left
                      · intro w'
                        go_simp
                        with_reducible rfl
                      rotate_left
                      · simp only [Act.put, List.setIfInBounds_toArray, List.set_cons_zero, List.set_cons_succ, i64_w, i32_w]
                        rfl
                      refine pure_ (i := 1) (N := some 36) (v := ?_) (a' := ?_) #[true, true, false, false, false, false, false, false, false, false, false, false, false, false, false, false, false, false, false, false, false, false, false, false, false, false] rfl rfl (any_of HT_.out (by kernel_rfl)) (fun _ _ _ h => h) (Or.inl ⟨by rfl, ?_⟩) ?_ ?_
                      rotate_left
                      · intro w'
                        go_simp
                        with_reducible rfl
                      rotate_left
                      · simp only [Act.put, List.setIfInBounds_toArray, List.set_cons_zero, List.set_cons_succ, i64_w, i32_w]
                        rfl
                      refine pure_ (i := 2) (N := some 37) (v := ?_) (a' := ?_) #[true, true, true, false, false, false, false, false, false, false, false, false, false, false, false, false, false, false, false, false, false, false, false, false, false, false] rfl rfl (any_of HT_.out (by kernel_rfl)) (fun _ _ _ h => h) (Or.inl ⟨by rfl, ?_⟩) ?_ ?_
                      rotate_left
                      · intro w'
                        go_simp
                        with_reducible rfl
                      rotate_left
                      · simp only [Act.put, List.setIfInBounds_toArray, List.set_cons_zero, List.set_cons_succ, i64_w, i32_w]
                        rfl
                      refine pure_ (i := 4) (N := some 39) (v := ?_) (a' := ?_) #[true, true, true, false, true, false, false, false, false, false, false, false, false, false, false, false, false, false, false, false, false, false, false, false, false, false] rfl rfl (any_of HT_.out (by kernel_rfl)) (fun _ _ _ h => h) (Or.inl ⟨by rfl, ?_⟩) ?_ ?_
                      rotate_left
                      · intro w'
                        go_simp
                        with_reducible rfl
                      rotate_left
                      · simp only [Act.put, List.setIfInBounds_toArray, List.set_cons_zero, List.set_cons_succ, i64_w, i32_w]
                        rfl
                      refine pure_ (i := 6) (N := some 41) (v := ?_) (a' := ?_) #[true, true, true, false, true, false, true, false, false, false, false, false, false, false, false, false, false, false, false, false, false, false, false, false, false, false] rfl rfl (any_of HT_.out (by kernel_rfl)) (fun _ _ _ h => h) (Or.inl ⟨by rfl, ?_⟩) ?_ ?_
                      rotate_left
                      · intro w'
                        go_simp
                        with_reducible rfl
                      rotate_left
                      · simp only [Act.put, List.setIfInBounds_toArray, List.set_cons_zero, List.set_cons_succ, i64_w, i32_w]
                        rfl
                      refine one_ (i := 3) (N := some 38) #[true, true, true, true, true, false, true, false, false, false, false, false, false, false, false, false, false, false, false, false, false, false, false, false, false, false] rfl rfl (one_of HT_.out (by kernel_rfl)) (by decide) (fun K hK => ?_)
                      refine goes_ Try.func11 (by kernel_rfl) rfl #[.slice Ao72 y200.length co72] (by rfl) rfl rfl (by (try simp only [List.map_toArray, List.map_cons, List.map_nil]); first | done | rfl | (simp only [List.length_drop, List.length_take]; rfl)) ?_
                      with_reducible refine (utf_Decode.calls _ _ y200 t209 _ ?side1 ?side2 A14.out).mono ?_
                      (case side1 => repeat (first | exact (Kd.R_reads' HO202.out).2.2 | (with_reducible refine Kd.C_alloc ?_ _) | (with_reducible refine Kd.C_drewN ?_ _) | (with_reducible refine Kd.C_drew ?_)))
                      (case side2 => exact (Kd.R_reads' HO202.out).2.1)
                      rintro e w73 ⟨rfl, hb⟩
                      refine ⟨_, rfl, ?_⟩
                      have n0_ := Aside0.mk (Kd.R_below (by (with_reducible repeat (first | apply Kd.R_alloc | apply Kd.R_drewN | apply Kd.R_drew)); exact HO202.out) hb)
                      have n1_ := Aside0.mk (Kd.R_below (by (with_reducible repeat (first | apply Kd.R_alloc | apply Kd.R_drewN | apply Kd.R_drew)); exact HO208.out) hb)
                      have n2_ := Aside0.mk (below_step (by repeat (first | (with_reducible first | exact HB.out | apply below_alloc | apply pw_below_drewN | apply below_drew1) | exact HB.out)) hb)
                      clear HO202
                      clear HO208
                      clear HB
                      have HO202 := n0_
                      have HO208 := n1_
                      have HB := n2_
                      clear n0_ n1_ n2_
                      (try clear hb)
                      (try clear hb2)
                      (try clear hk)
                      (try clear hi)
                      refine hK.out _ _ trivial (fun hHeld => ?_)
                      clear hK K
                      refine norm_ (a' := ?_) ?_ ?_
                      rotate_left
                      · show Act.put _ (some 38) _ = _
                        simp only [Act.put, List.setIfInBounds_toArray, List.set_cons_zero, List.set_cons_succ, i64_w, i32_w]
                        rfl
                      refine one_ (i := 5) (N := some 40) #[true, true, true, true, true, true, true, false, false, false, false, false, false, false, false, false, false, false, false, false, false, false, false, false, false, false] rfl rfl (one_of HT_.out (by kernel_rfl)) (by decide) (fun K hK => ?_)
                      refine goes_ Try.func11 (by kernel_rfl) rfl #[.slice A0 l0.length c0] (by rfl) rfl rfl (by (try simp only [List.map_toArray, List.map_cons, List.map_nil]); first | done | rfl | (simp only [List.length_drop, List.length_take]; rfl)) ?_
                      with_reducible refine (utf_Decode.calls _ _ l0 t210 _ ?side1 ?side2 A15.out).mono ?_
                      (case side1 => repeat (first | exact (Kd.C_below HR0.out HB.out) | (with_reducible refine Kd.C_alloc ?_ _) | (with_reducible refine Kd.C_drewN ?_ _) | (with_reducible refine Kd.C_drew ?_)))
                      (case side2 => exact HC0.out)
                      rintro e w74 ⟨rfl, hb⟩
                      refine ⟨_, rfl, ?_⟩
                      have n0_ := Aside0.mk (Kd.R_below (by (with_reducible repeat (first | apply Kd.R_alloc | apply Kd.R_drewN | apply Kd.R_drew)); exact HO202.out) hb)
                      have n1_ := Aside0.mk (Kd.R_below (by (with_reducible repeat (first | apply Kd.R_alloc | apply Kd.R_drewN | apply Kd.R_drew)); exact HO208.out) hb)
                      have n2_ := Aside0.mk (below_step (by repeat (first | (with_reducible first | exact HB.out | apply below_alloc | apply pw_below_drewN | apply below_drew1) | exact HB.out)) hb)
                      clear HO202
                      clear HO208
                      clear HB
                      have HO202 := n0_
                      have HO208 := n1_
                      have HB := n2_
                      clear n0_ n1_ n2_
                      (try clear hb)
                      (try clear hb2)
                      (try clear hk)
                      (try clear hi)
                      obtain ⟨Ao75, co75, eo75⟩ := Kd.R_slice HO208.out
                      (first | subst eo75 | (injection eo75 with f1_ f2_ f3_; have f4_ := f1_.symm; have f5_ := f3_.symm; clear f1_ f2_ f3_; subst f4_; subst f5_))
                      refine hK.out _ _ trivial (fun hHeld => ?_)
                      clear hK K
                      refine norm_ (a' := ?_) ?_ ?_
                      rotate_left
                      · show Act.put _ (some 40) _ = _
                        simp only [Act.put, List.setIfInBounds_toArray, List.set_cons_zero, List.set_cons_succ, i64_w, i32_w]
                        rfl
                      refine one_ (i := 7) (N := some 42) #[true, true, true, true, true, true, true, true, false, false, false, false, false, false, false, false, false, false, false, false, false, false, false, false, false, false] rfl rfl (one_of HT_.out (by kernel_rfl)) (by decide) (fun K hK => ?_)
                      refine goes_ Try.func11 (by kernel_rfl) rfl #[.slice Ao75 y206.length co75] (by rfl) rfl rfl (by (try simp only [List.map_toArray, List.map_cons, List.map_nil]); first | done | rfl | (simp only [List.length_drop, List.length_take]; rfl)) ?_
                      with_reducible refine (utf_Decode.calls _ _ y206 t211 _ ?side1 ?side2 A16.out).mono ?_
                      (case side1 => repeat (first | exact (Kd.R_reads' HO208.out).2.2 | (with_reducible refine Kd.C_alloc ?_ _) | (with_reducible refine Kd.C_drewN ?_ _) | (with_reducible refine Kd.C_drew ?_)))
                      (case side2 => exact (Kd.R_reads' HO208.out).2.1)
                      rintro e w76 ⟨rfl, hb⟩
                      refine ⟨_, rfl, ?_⟩
                      have n0_ := Aside0.mk (Kd.R_below (by (with_reducible repeat (first | apply Kd.R_alloc | apply Kd.R_drewN | apply Kd.R_drew)); exact HO202.out) hb)
                      have n1_ := Aside0.mk (Kd.R_below (by (with_reducible repeat (first | apply Kd.R_alloc | apply Kd.R_drewN | apply Kd.R_drew)); exact HO208.out) hb)
                      have n2_ := Aside0.mk (below_step (by repeat (first | (with_reducible first | exact HB.out | apply below_alloc | apply pw_below_drewN | apply below_drew1) | exact HB.out)) hb)
                      clear HO202
                      clear HO208
                      clear HB
                      have HO202 := n0_
                      have HO208 := n1_
                      have HB := n2_
                      clear n0_ n1_ n2_
                      (try clear hb)
                      (try clear hb2)
                      (try clear hk)
                      (try clear hi)
                      refine hK.out _ _ trivial (fun hHeld => ?_)
                      clear hK K
                      refine norm_ (a' := ?_) ?_ ?_
                      rotate_left
                      · show Act.put _ (some 42) _ = _
                        simp only [Act.put, List.setIfInBounds_toArray, List.set_cons_zero, List.set_cons_succ, i64_w, i32_w]
                        rfl
                      refine pure_ (i := 8) (N := some 43) (v := ?_) (a' := ?_) #[true, true, true, true, true, true, true, true, true, false, false, false, false, false, false, false, false, false, false, false, false, false, false, false, false, false] rfl rfl (any_of HT_.out (by kernel_rfl)) (fun _ _ _ h => h) (Or.inl ⟨by rfl, ?_⟩) ?_ ?_
                      rotate_left
                      · intro w'
                        go_simp
                        with_reducible rfl
                      rotate_left
                      · simp only [Act.put, List.setIfInBounds_toArray, List.set_cons_zero, List.set_cons_succ, i64_w, i32_w]
                        rfl
                      refine pure_ (i := 9) (N := some 44) (v := ?_) (a' := ?_) #[true, true, true, true, true, true, true, true, true, true, false, false, false, false, false, false, false, false, false, false, false, false, false, false, false, false] rfl rfl (any_of HT_.out (by kernel_rfl)) (fun _ _ _ h => h) (Or.inl ⟨by rfl, ?_⟩) ?_ ?_
                      rotate_left
                      · intro w'
                        go_simp
                        with_reducible rfl
                      rotate_left
                      · simp only [Act.put, List.setIfInBounds_toArray, List.set_cons_zero, List.set_cons_succ, i64_w, i32_w]
                        rfl
                      refine pure_ (i := 10) (N := some 45) (v := ?_) (a' := ?_) #[true, true, true, true, true, true, true, true, true, true, true, false, false, false, false, false, false, false, false, false, false, false, false, false, false, false] rfl rfl (any_of HT_.out (by kernel_rfl)) (fun _ _ _ h => h) (Or.inl ⟨by rfl, ?_⟩) ?_ ?_
                      rotate_left
                      · intro w'
                        go_simp
                        with_reducible rfl
                      rotate_left
                      · simp only [Act.put, List.setIfInBounds_toArray, List.set_cons_zero, List.set_cons_succ, i64_w, i32_w]
                        rfl
                      refine pure_ (i := 11) (N := some 46) (v := ?_) (a' := ?_) #[true, true, true, true, true, true, true, true, true, true, true, true, false, false, false, false, false, false, false, false, false, false, false, false, false, false] rfl rfl (any_of HT_.out (by kernel_rfl)) (fun _ _ _ h => h) (Or.inl ⟨by rfl, ?_⟩) ?_ ?_
                      rotate_left
                      · intro w'
                        go_simp
                        with_reducible rfl
                      rotate_left
                      · simp only [Act.put, List.setIfInBounds_toArray, List.set_cons_zero, List.set_cons_succ, i64_w, i32_w]
                        rfl
                      refine pure_ (i := 12) (N := some 47) (v := undef) (a' := ?_) #[true, true, true, true, true, true, true, true, true, true, true, true, true, false, false, false, false, false, false, false, false, false, false, false, false, false] rfl rfl (any_of HT_.out (by kernel_rfl)) (fun _ _ _ h => h) (Or.inr ⟨by rfl, rfl⟩) ?_ ?_
                      rotate_left
                      · simp only [Act.put, List.setIfInBounds_toArray, List.set_cons_zero, List.set_cons_succ, i64_w, i32_w]
                        rfl
                      refine pure_ (i := 13) (N := some 48) (v := undef) (a' := ?_) #[true, true, true, true, true, true, true, true, true, true, true, true, true, true, false, false, false, false, false, false, false, false, false, false, false, false] rfl rfl (any_of HT_.out (by kernel_rfl)) (fun _ _ _ h => h) (Or.inr ⟨by rfl, rfl⟩) ?_ ?_
                      rotate_left
                      · simp only [Act.put, List.setIfInBounds_toArray, List.set_cons_zero, List.set_cons_succ, i64_w, i32_w]
                        rfl
                      refine pure_ (i := 14) (N := some 49) (v := undef) (a' := ?_) #[true, true, true, true, true, true, true, true, true, true, true, true, true, true, true, false, false, false, false, false, false, false, false, false, false, false] rfl rfl (any_of HT_.out (by kernel_rfl)) (fun _ _ _ h => h) (Or.inr ⟨by rfl, rfl⟩) ?_ ?_
                      rotate_left
                      · simp only [Act.put, List.setIfInBounds_toArray, List.set_cons_zero, List.set_cons_succ, i64_w, i32_w]
                        rfl
                      refine pure_ (i := 15) (N := some 50) (v := undef) (a' := ?_) #[true, true, true, true, true, true, true, true, true, true, true, true, true, true, true, true, false, false, false, false, false, false, false, false, false, false] rfl rfl (any_of HT_.out (by kernel_rfl)) (fun _ _ _ h => h) (Or.inr ⟨by rfl, rfl⟩) ?_ ?_
                      rotate_left
                      · simp only [Act.put, List.setIfInBounds_toArray, List.set_cons_zero, List.set_cons_succ, i64_w, i32_w]
                        rfl
                      refine pure_ (i := 16) (N := some 51) (v := undef) (a' := ?_) #[true, true, true, true, true, true, true, true, true, true, true, true, true, true, true, true, true, false, false, false, false, false, false, false, false, false] rfl rfl (any_of HT_.out (by kernel_rfl)) (fun _ _ _ h => h) (Or.inr ⟨by rfl, rfl⟩) ?_ ?_
                      rotate_left
                      · simp only [Act.put, List.setIfInBounds_toArray, List.set_cons_zero, List.set_cons_succ, i64_w, i32_w]
                        rfl
                      refine pure_ (i := 17) (N := some 52) (v := undef) (a' := ?_) #[true, true, true, true, true, true, true, true, true, true, true, true, true, true, true, true, true, true, false, false, false, false, false, false, false, false] rfl rfl (any_of HT_.out (by kernel_rfl)) (fun _ _ _ h => h) (Or.inr ⟨by rfl, rfl⟩) ?_ ?_
                      rotate_left
                      · simp only [Act.put, List.setIfInBounds_toArray, List.set_cons_zero, List.set_cons_succ, i64_w, i32_w]
                        rfl
                      refine pure_ (i := 18) (N := some 53) (v := undef) (a' := ?_) #[true, true, true, true, true, true, true, true, true, true, true, true, true, true, true, true, true, true, true, false, false, false, false, false, false, false] rfl rfl (any_of HT_.out (by kernel_rfl)) (fun _ _ _ h => h) (Or.inr ⟨by rfl, rfl⟩) ?_ ?_
                      rotate_left
                      · simp only [Act.put, List.setIfInBounds_toArray, List.set_cons_zero, List.set_cons_succ, i64_w, i32_w]
                        rfl
                      refine pure_ (i := 19) (N := some 54) (v := undef) (a' := ?_) #[true, true, true, true, true, true, true, true, true, true, true, true, true, true, true, true, true, true, true, true, false, false, false, false, false, false] rfl rfl (any_of HT_.out (by kernel_rfl)) (fun _ _ _ h => h) (Or.inr ⟨by rfl, rfl⟩) ?_ ?_
                      rotate_left
                      · simp only [Act.put, List.setIfInBounds_toArray, List.set_cons_zero, List.set_cons_succ, i64_w, i32_w]
                        rfl
                      refine pure_ (i := 20) (N := some 55) (v := undef) (a' := ?_) #[true, true, true, true, true, true, true, true, true, true, true, true, true, true, true, true, true, true, true, true, true, false, false, false, false, false] rfl rfl (any_of HT_.out (by kernel_rfl)) (fun _ _ _ h => h) (Or.inr ⟨by rfl, rfl⟩) ?_ ?_
                      rotate_left
                      · simp only [Act.put, List.setIfInBounds_toArray, List.set_cons_zero, List.set_cons_succ, i64_w, i32_w]
                        rfl
                      refine pure_ (i := 21) (N := some 56) (v := undef) (a' := ?_) #[true, true, true, true, true, true, true, true, true, true, true, true, true, true, true, true, true, true, true, true, true, true, false, false, false, false] rfl rfl (any_of HT_.out (by kernel_rfl)) (fun _ _ _ h => h) (Or.inr ⟨by rfl, rfl⟩) ?_ ?_
                      rotate_left
                      · simp only [Act.put, List.setIfInBounds_toArray, List.set_cons_zero, List.set_cons_succ, i64_w, i32_w]
                        rfl
                      refine pure_ (i := 22) (N := some 57) (v := undef) (a' := ?_) #[true, true, true, true, true, true, true, true, true, true, true, true, true, true, true, true, true, true, true, true, true, true, true, false, false, false] rfl rfl (any_of HT_.out (by kernel_rfl)) (fun _ _ _ h => h) (Or.inr ⟨by rfl, rfl⟩) ?_ ?_
                      rotate_left
                      · simp only [Act.put, List.setIfInBounds_toArray, List.set_cons_zero, List.set_cons_succ, i64_w, i32_w]
                        rfl
                      refine pure_ (i := 23) (N := some 58) (v := undef) (a' := ?_) #[true, true, true, true, true, true, true, true, true, true, true, true, true, true, true, true, true, true, true, true, true, true, true, true, false, false] rfl rfl (any_of HT_.out (by kernel_rfl)) (fun _ _ _ h => h) (Or.inr ⟨by rfl, rfl⟩) ?_ ?_
                      rotate_left
                      · simp only [Act.put, List.setIfInBounds_toArray, List.set_cons_zero, List.set_cons_succ, i64_w, i32_w]
                        rfl
                      refine pure_ (i := 24) (N := some 59) (v := ?_) (a' := ?_) #[true, true, true, true, true, true, true, true, true, true, true, true, true, true, true, true, true, true, true, true, true, true, true, true, true, false] rfl rfl (any_of HT_.out (by kernel_rfl)) (fun _ _ _ h => h) (Or.inl ⟨by rfl, ?_⟩) ?_ ?_
                      rotate_left
                      · intro w'
                        go_simp
                        with_reducible rfl
                      rotate_left
                      · simp only [Act.put, List.setIfInBounds_toArray, List.set_cons_zero, List.set_cons_succ, i64_w, i32_w]
                        rfl
                      refine pure_ (i := 25) (N := some 6) (v := ?_) (a' := ?_) #[true, true, true, true, true, true, true, true, true, true, true, true, true, true, true, true, true, true, true, true, true, true, true, true, true, true] rfl rfl (any_of HT_.out (by kernel_rfl)) (fun _ _ _ h => h) (Or.inl ⟨by rfl, ?_⟩) ?_ ?_
                      rotate_left
                      · intro w'
                        go_simp
                        with_reducible rfl
                      rotate_left
                      · simp only [Act.put, List.setIfInBounds_toArray, List.set_cons_zero, List.set_cons_succ, i64_w, i32_w]
                        rfl
                      refine done_ (done_of HT_.out (by kernel_rfl)) ?_
                      try go_wp2
                      go_ret
                      exact ⟨by first | rfl | (simp [errW_none, errW_some] <;> rfl) | (simp [*, errW_none, errW_some] <;> rfl), by repeat (first | (with_reducible first | exact HB.out | apply below_alloc | apply pw_below_drewN | apply below_drew1) | exact HB.out)⟩
                  · rw [if_neg c17] at H
                    exact absurd H (by simp)
                · replace c13 := Bool.eq_false_iff.mpr c13
                  subst c13
                  have H1 : (some false) = some r := by rw [if_neg (show ¬ (false = true) by decide)] at H; exact H
                  clear H
                  have H := H1
                  clear H1
                  obtain rfl := Option.some.inj H
                  try go_wp2_with (first | ((with_reducible refine gate_dst (N := 23) rfl ?_); (try (refine gate_guard (by rfl) ?_; dsimp only)); refine Kd.R_lit (Kd.int .u8) _ 5 ?hg (N := 23) ?hd (xs := ([] : List Int)) (inner := []) (ok := fun _ => True) (okp := fun _ => True) ?hr ?hp (fun _ hk => hk) trivial (Below.refl _ _) (Nat.le_refl _) (by simp) ?_; (case hd => rfl); (case hg => rfl); (case hr => first | (go_simp; done) | (go_simp; rfl)); (case hp => exact (Reps.none _ _)); intro v192 w77 ho78 hb hg_ hnew_; clear hg_ hnew_; (first | rw [← Ny191.out] at ho78 | (simp only [Int.reduceToNat] at ho78; rw [← Ny191.out] at ho78)); have n0_ := Aside0.mk (Kd.R_lower ho78 (below_size (by repeat (first | (with_reducible first | exact HB.out | apply below_alloc | apply pw_below_drewN | apply below_drew1) | exact HB.out)))); have n1_ := Aside0.mk (below_step (by repeat (first | (with_reducible first | exact HB.out | apply below_alloc | apply pw_below_drewN | apply below_drew1) | exact HB.out)) hb); clear HB; have HO193 := n0_; have HB := n1_; clear n0_ n1_; clear hb ho78) | ((with_reducible refine gate_builtin (b := .append) (xs := #[.tmp 23, .tmp 24]) rfl ?_); (try (refine gate_guard (by rfl) ?_; dsimp only)); at_builtin; refine Kd.R_append_rows (Kd.int .u8) (w0 := w) w.heap.size rfl (.tmp 23) (.tmp 24) 22 5 (.int .u8 0) 1 rfl Try.underlying22 info5 rfl (by decide) (by omega) v192 y191 l0 _ _ _ (fun _ => True) (fun _ => False) rfl rfl ?aO ?aR (fun _ _ h => h) (fun _ h => h.elim) ?aF ?aB ?aS ?aL ?_; (case aR => repeat (first | exact (Kd.C_below HR0.out HB.out) | (with_reducible refine Kd.C_alloc ?_ _) | (with_reducible refine Kd.C_drewN ?_ _) | (with_reducible refine Kd.C_drew ?_))); (case aB => exact (by repeat (first | (with_reducible first | exact HB.out | apply below_alloc | apply pw_below_drewN | apply below_drew1) | exact HB.out))); (case aF => exact (fun _ _ => trivial)); (case aO => exact (by (with_reducible repeat (first | apply Kd.R_alloc | apply Kd.R_drewN | apply Kd.R_drew)); exact HO193.out)); (case aS => exact (below_size (by repeat (first | (with_reducible first | exact HB.out | apply below_alloc | apply pw_below_drewN | apply below_drew1) | exact HB.out)))); (case aL => have := LMc9.out; omega); intro v195 w79 ho hb hg hat; rw [← Ny194.out] at ho; have n0_ := Aside0.mk (hb); have n1_ := Aside0.mk (ho); clear HB; clear HO193; have HB := n0_; have HO196 := n1_; clear n0_ n1_; clear ho hb hg hat) | ((with_reducible refine gate_builtin (b := .append) (xs := #[.tmp 25, .tmp 27]) rfl ?_); (try (refine gate_guard (by rfl) ?_; dsimp only)); at_builtin; refine Kd.R_append (Kd.int .u8) (w0 := w) w.heap.size rfl (.tmp 25) (.tmp 27) 22 5 (.int .u8 0) 1 rfl Try.underlying22 info5 rfl (by decide) (by omega) v195 y194 (Int.tmod a2 128) [.int .u8 (Int.tmod a2 128)] (fun _ => True) (fun _ => False) rfl rfl ?aP (fun _ hk => hk.elim) ?aF ?aO ?aB ?aS ?aL ?_; (case aP => exact rfl); (case aB => exact (by repeat (first | (with_reducible first | exact HB.out | apply below_alloc | apply pw_below_drewN | apply below_drew1) | exact HB.out))); (case aF => exact (fun _ _ => trivial)); (case aO => exact (by (with_reducible repeat (first | apply Kd.R_alloc | apply Kd.R_drewN | apply Kd.R_drew)); exact HO196.out)); (case aS => exact (below_size (by repeat (first | (with_reducible first | exact HB.out | apply below_alloc | apply pw_below_drewN | apply below_drew1) | exact HB.out)))); (case aL => have := LMc10.out; omega); intro v198 w80 ho hb hg hat; rw [← Ny197.out] at ho; have n0_ := Aside0.mk (hb); have n1_ := Aside0.mk (ho); clear HB; clear HO196; have HB := n0_; have HO199 := n1_; clear n0_ n1_; clear ho hb hg hat) | ((with_reducible refine gate_builtin (b := .append) (xs := #[.tmp 28, .tmp 29]) rfl ?_); (try (refine gate_guard (by rfl) ?_; dsimp only)); at_builtin; refine Kd.R_append_rows (Kd.int .u8) (w0 := w) w.heap.size rfl (.tmp 28) (.tmp 29) 22 5 (.int .u8 0) 1 rfl Try.underlying22 info5 rfl (by decide) (by omega) v198 y197 l1 _ _ _ (fun _ => True) (fun _ => False) rfl rfl ?aO ?aR (fun _ _ h => h) (fun _ h => h.elim) ?aF ?aB ?aS ?aL ?_; (case aR => repeat (first | exact (Kd.C_below HR1.out HB.out) | (with_reducible refine Kd.C_alloc ?_ _) | (with_reducible refine Kd.C_drewN ?_ _) | (with_reducible refine Kd.C_drew ?_))); (case aB => exact (by repeat (first | (with_reducible first | exact HB.out | apply below_alloc | apply pw_below_drewN | apply below_drew1) | exact HB.out))); (case aF => exact (fun _ _ => trivial)); (case aO => exact (by (with_reducible repeat (first | apply Kd.R_alloc | apply Kd.R_drewN | apply Kd.R_drew)); exact HO199.out)); (case aS => exact (below_size (by repeat (first | (with_reducible first | exact HB.out | apply below_alloc | apply pw_below_drewN | apply below_drew1) | exact HB.out)))); (case aL => have := LMc11.out; omega); intro v201 w81 ho hb hg hat; rw [← Ny200.out] at ho; have n0_ := Aside0.mk (hb); have n1_ := Aside0.mk (ho); clear HB; clear HO199; have HB := n0_; have HO202 := n1_; clear n0_ n1_; clear ho hb hg hat) | ((with_reducible refine gate_dst (N := 32) rfl ?_); (try (refine gate_guard (by rfl) ?_; dsimp only)); refine Kd.R_lit (Kd.int .u8) _ 5 ?hg (N := 32) ?hd (xs := ([Int.tmod a2 128] : List Int)) (inner := [.int .u8 (Int.tmod a2 128)]) (ok := fun _ => True) (okp := fun _ => True) ?hr ?hp (fun _ hk => hk) trivial (Below.refl _ _) (Nat.le_refl _) (by simp) ?_; (case hd => rfl); (case hg => rfl); (case hr => first | (go_simp; done) | (go_simp; rfl)); (case hp => exact (Reps.one (show Kd.M (Kd.int .u8) _ _ _ (Int.tmod a2 128) [.int .u8 (Int.tmod a2 128)] from rfl) (Reps.none _ _))); intro v204 w82 ho83 hb hg_ hnew_; clear hg_ hnew_; (first | rw [← Ny203.out] at ho83 | (simp only [Int.reduceToNat] at ho83; rw [← Ny203.out] at ho83)); have n0_ := Aside0.mk (Kd.R_elder' (by (with_reducible repeat (first | apply Kd.R_alloc | apply Kd.R_drewN | apply Kd.R_drew)); exact HO202.out) (Kd.R_base ho83) hb); have n1_ := Aside0.mk (Kd.R_lower (Kd.R_new' ho83 (Kd.R_lt (by (with_reducible repeat (first | apply Kd.R_alloc | apply Kd.R_drewN | apply Kd.R_drew)); exact HO202.out))) (below_size (by repeat (first | (with_reducible first | exact HB.out | apply below_alloc | apply pw_below_drewN | apply below_drew1) | exact HB.out)))); have n2_ := Aside0.mk (below_step (by repeat (first | (with_reducible first | exact HB.out | apply below_alloc | apply pw_below_drewN | apply below_drew1) | exact HB.out)) hb); clear HO202; clear HB; have HO202 := n0_; have HO205 := n1_; have HB := n2_; clear n0_ n1_ n2_; clear hb ho83) | ((with_reducible refine gate_builtin (b := .append) (xs := #[.tmp 32, .tmp 33]) rfl ?_); (try (refine gate_guard (by rfl) ?_; dsimp only)); at_builtin; refine Kd.R_append_rows (Kd.int .u8) (w0 := w) w.heap.size rfl (.tmp 32) (.tmp 33) 22 5 (.int .u8 0) 1 rfl Try.underlying22 info5 rfl (by decide) (by omega) v204 y203 l1 _ _ _ (fun k_ => some k_ ≠ (v201 : Value).ownBlock) (fun _ => False) rfl rfl ?aO ?aR (fun _ _ h => h) (fun _ h => h.elim) ?aF ?aB ?aS ?aL ?_; (case aR => repeat (first | exact (Kd.C_below HR1.out HB.out) | (with_reducible refine Kd.C_alloc ?_ _) | (with_reducible refine Kd.C_drewN ?_ _) | (with_reducible refine Kd.C_drew ?_))); (case aB => exact (by repeat (first | (with_reducible first | exact HB.out | apply below_alloc | apply pw_below_drewN | apply below_drew1) | exact HB.out))); (case aF => exact (fun k_ hk => Kd.fresh' (Kd.R_lt (by (with_reducible repeat (first | apply Kd.R_alloc | apply Kd.R_drewN | apply Kd.R_drew)); exact HO202.out)) k_ hk)); (case aO => exact (by (with_reducible repeat (first | apply Kd.R_alloc | apply Kd.R_drewN | apply Kd.R_drew)); exact Kd.R_mono HO205.out (fun _ hk => hk.2))); (case aS => exact (below_size (by repeat (first | (with_reducible first | exact HB.out | apply below_alloc | apply pw_below_drewN | apply below_drew1) | exact HB.out)))); (case aL => have := LMc12.out; omega); intro v207 w84 ho hb hg hat; rw [← Ny206.out] at ho; have n0_ := Aside0.mk (Kd.R_after (ok := (fun _ => True)) (by (with_reducible repeat (first | apply Kd.R_alloc | apply Kd.R_drewN | apply Kd.R_drew)); exact HO202.out) hg hat); have n1_ := Aside0.mk (hb); have n2_ := Aside0.mk (ho); clear HO202; clear HB; clear HO205; have HO202 := n0_; have HB := n1_; have HO208 := n2_; clear n0_ n1_ n2_; clear ho hb hg hat))
                  have n0_ := Aside0.mk (Kd.R_drew HO202.out)
                  have n1_ := Aside0.mk (Kd.R_drew HO208.out)
                  have n2_ := Aside0.mk (below_drew1 HB.out)
                  clear HO202
                  clear HO208
                  clear HB
                  have HO202 := n0_
                  have HO208 := n1_
                  have HB := n2_
                  clear n0_ n1_ n2_
                  refine start_ (n := 26) (S := fun w' => True) (ds := []) #[false, false, false, false, false, false, false, false, false, false, false, false, false, false, false, false, false, false, false, false, false, false, false, false, false, false] (by kernel_rfl) rfl rfl trivial (fun hHeld => ?_); refine with_tabW flaillaw01_UtfParts.tab7 flaillaw01_UtfParts.bits7 (fun HT_ HW_ => ?_)
                  generalize w84.drew = w85 at HO202 HO208 HB hHeld ⊢
                  refine pure_ (i := 0) (N := some 35) (v := ?_) (a' := ?_) #[true, false, false, false, false, false, false, false, false, false, false, false, false, false, false, false, false, false, false, false, false, false, false, false, false, false] rfl rfl (any_of HT_.out (by kernel_rfl)) (fun _ _ _ h => h) (Or.inl ⟨by rfl, ?_⟩) ?_ ?_
                  rotate_left
                  · intro w'
                    go_simp
                    with_reducible rfl
                  rotate_left
                  · simp only [Act.put, List.setIfInBounds_toArray, List.set_cons_zero, List.set_cons_succ, i64_w, i32_w]
                    rfl
                  refine pure_ (i := 1) (N := some 36) (v := ?_) (a' := ?_) #[true, true, false, false, false, false, false, false, false, false, false, false, false, false, false, false, false, false, false, false, false, false, false, false, false, false] rfl rfl (any_of HT_.out (by kernel_rfl)) (fun _ _ _ h => h) (Or.inl ⟨by rfl, ?_⟩) ?_ ?_
                  rotate_left
                  · intro w'
                    go_simp
                    with_reducible rfl
                  rotate_left
                  · simp only [Act.put, List.setIfInBounds_toArray, List.set_cons_zero, List.set_cons_succ, i64_w, i32_w]
                    rfl
                  refine pure_ (i := 2) (N := some 37) (v := undef) (a' := ?_) #[true, true, true, false, false, false, false, false, false, false, false, false, false, false, false, false, false, false, false, false, false, false, false, false, false, false] rfl rfl (any_of HT_.out (by kernel_rfl)) (fun _ _ _ h => h) (Or.inr ⟨by rfl, rfl⟩) ?_ ?_
                  rotate_left
                  · simp only [Act.put, List.setIfInBounds_toArray, List.set_cons_zero, List.set_cons_succ, i64_w, i32_w]
                    rfl
                  refine pure_ (i := 3) (N := some 38) (v := undef) (a' := ?_) #[true, true, true, true, false, false, false, false, false, false, false, false, false, false, false, false, false, false, false, false, false, false, false, false, false, false] rfl rfl (any_of HT_.out (by kernel_rfl)) (fun _ _ _ h => h) (Or.inr ⟨by rfl, rfl⟩) ?_ ?_
                  rotate_left
                  · simp only [Act.put, List.setIfInBounds_toArray, List.set_cons_zero, List.set_cons_succ, i64_w, i32_w]
                    rfl
                  refine pure_ (i := 4) (N := some 39) (v := undef) (a' := ?_) #[true, true, true, true, true, false, false, false, false, false, false, false, false, false, false, false, false, false, false, false, false, false, false, false, false, false] rfl rfl (any_of HT_.out (by kernel_rfl)) (fun _ _ _ h => h) (Or.inr ⟨by rfl, rfl⟩) ?_ ?_
                  rotate_left
                  · simp only [Act.put, List.setIfInBounds_toArray, List.set_cons_zero, List.set_cons_succ, i64_w, i32_w]
                    rfl
                  refine pure_ (i := 5) (N := some 40) (v := undef) (a' := ?_) #[true, true, true, true, true, true, false, false, false, false, false, false, false, false, false, false, false, false, false, false, false, false, false, false, false, false] rfl rfl (any_of HT_.out (by kernel_rfl)) (fun _ _ _ h => h) (Or.inr ⟨by rfl, rfl⟩) ?_ ?_
                  rotate_left
                  · simp only [Act.put, List.setIfInBounds_toArray, List.set_cons_zero, List.set_cons_succ, i64_w, i32_w]
                    rfl
                  refine pure_ (i := 6) (N := some 41) (v := undef) (a' := ?_) #[true, true, true, true, true, true, true, false, false, false, false, false, false, false, false, false, false, false, false, false, false, false, false, false, false, false] rfl rfl (any_of HT_.out (by kernel_rfl)) (fun _ _ _ h => h) (Or.inr ⟨by rfl, rfl⟩) ?_ ?_
                  rotate_left
                  · simp only [Act.put, List.setIfInBounds_toArray, List.set_cons_zero, List.set_cons_succ, i64_w, i32_w]
                    rfl
                  refine pure_ (i := 7) (N := some 42) (v := undef) (a' := ?_) #[true, true, true, true, true, true, true, true, false, false, false, false, false, false, false, false, false, false, false, false, false, false, false, false, false, false] rfl rfl (any_of HT_.out (by kernel_rfl)) (fun _ _ _ h => h) (Or.inr ⟨by rfl, rfl⟩) ?_ ?_
                  rotate_left
                  · simp only [Act.put, List.setIfInBounds_toArray, List.set_cons_zero, List.set_cons_succ, i64_w, i32_w]
                    rfl
                  refine pure_ (i := 8) (N := some 43) (v := undef) (a' := ?_) #[true, true, true, true, true, true, true, true, true, false, false, false, false, false, false, false, false, false, false, false, false, false, false, false, false, false] rfl rfl (any_of HT_.out (by kernel_rfl)) (fun _ _ _ h => h) (Or.inr ⟨by rfl, rfl⟩) ?_ ?_
                  rotate_left
                  · simp only [Act.put, List.setIfInBounds_toArray, List.set_cons_zero, List.set_cons_succ, i64_w, i32_w]
                    rfl
                  refine pure_ (i := 9) (N := some 44) (v := undef) (a' := ?_) #[true, true, true, true, true, true, true, true, true, true, false, false, false, false, false, false, false, false, false, false, false, false, false, false, false, false] rfl rfl (any_of HT_.out (by kernel_rfl)) (fun _ _ _ h => h) (Or.inr ⟨by rfl, rfl⟩) ?_ ?_
                  rotate_left
                  · simp only [Act.put, List.setIfInBounds_toArray, List.set_cons_zero, List.set_cons_succ, i64_w, i32_w]
                    rfl
                  refine pure_ (i := 10) (N := some 45) (v := ?_) (a' := ?_) #[true, true, true, true, true, true, true, true, true, true, true, false, false, false, false, false, false, false, false, false, false, false, false, false, false, false] rfl rfl (any_of HT_.out (by kernel_rfl)) (fun _ _ _ h => h) (Or.inl ⟨by rfl, ?_⟩) ?_ ?_
                  rotate_left
                  · intro w'
                    go_simp
                    with_reducible rfl
                  rotate_left
                  · simp only [Act.put, List.setIfInBounds_toArray, List.set_cons_zero, List.set_cons_succ, i64_w, i32_w]
                    rfl
                  refine pure_ (i := 11) (N := some 46) (v := ?_) (a' := ?_) #[true, true, true, true, true, true, true, true, true, true, true, true, false, false, false, false, false, false, false, false, false, false, false, false, false, false] rfl rfl (any_of HT_.out (by kernel_rfl)) (fun _ _ _ h => h) (Or.inl ⟨by rfl, ?_⟩) ?_ ?_
                  rotate_left
                  · intro w'
                    go_simp
                    with_reducible rfl
                  rotate_left
                  · simp only [Act.put, List.setIfInBounds_toArray, List.set_cons_zero, List.set_cons_succ, i64_w, i32_w]
                    rfl
                  refine pure_ (i := 12) (N := some 47) (v := undef) (a' := ?_) #[true, true, true, true, true, true, true, true, true, true, true, true, true, false, false, false, false, false, false, false, false, false, false, false, false, false] rfl rfl (any_of HT_.out (by kernel_rfl)) (fun _ _ _ h => h) (Or.inr ⟨by rfl, rfl⟩) ?_ ?_
                  rotate_left
                  · simp only [Act.put, List.setIfInBounds_toArray, List.set_cons_zero, List.set_cons_succ, i64_w, i32_w]
                    rfl
                  refine pure_ (i := 13) (N := some 48) (v := undef) (a' := ?_) #[true, true, true, true, true, true, true, true, true, true, true, true, true, true, false, false, false, false, false, false, false, false, false, false, false, false] rfl rfl (any_of HT_.out (by kernel_rfl)) (fun _ _ _ h => h) (Or.inr ⟨by rfl, rfl⟩) ?_ ?_
                  rotate_left
                  · simp only [Act.put, List.setIfInBounds_toArray, List.set_cons_zero, List.set_cons_succ, i64_w, i32_w]
                    rfl
                  refine pure_ (i := 14) (N := some 49) (v := undef) (a' := ?_) #[true, true, true, true, true, true, true, true, true, true, true, true, true, true, true, false, false, false, false, false, false, false, false, false, false, false] rfl rfl (any_of HT_.out (by kernel_rfl)) (fun _ _ _ h => h) (Or.inr ⟨by rfl, rfl⟩) ?_ ?_
                  rotate_left
                  · simp only [Act.put, List.setIfInBounds_toArray, List.set_cons_zero, List.set_cons_succ, i64_w, i32_w]
                    rfl
                  refine pure_ (i := 15) (N := some 50) (v := undef) (a' := ?_) #[true, true, true, true, true, true, true, true, true, true, true, true, true, true, true, true, false, false, false, false, false, false, false, false, false, false] rfl rfl (any_of HT_.out (by kernel_rfl)) (fun _ _ _ h => h) (Or.inr ⟨by rfl, rfl⟩) ?_ ?_
                  rotate_left
                  · simp only [Act.put, List.setIfInBounds_toArray, List.set_cons_zero, List.set_cons_succ, i64_w, i32_w]
                    rfl
                  refine pure_ (i := 16) (N := some 51) (v := undef) (a' := ?_) #[true, true, true, true, true, true, true, true, true, true, true, true, true, true, true, true, true, false, false, false, false, false, false, false, false, false] rfl rfl (any_of HT_.out (by kernel_rfl)) (fun _ _ _ h => h) (Or.inr ⟨by rfl, rfl⟩) ?_ ?_
                  rotate_left
                  · simp only [Act.put, List.setIfInBounds_toArray, List.set_cons_zero, List.set_cons_succ, i64_w, i32_w]
                    rfl
                  refine pure_ (i := 17) (N := some 52) (v := undef) (a' := ?_) #[true, true, true, true, true, true, true, true, true, true, true, true, true, true, true, true, true, true, false, false, false, false, false, false, false, false] rfl rfl (any_of HT_.out (by kernel_rfl)) (fun _ _ _ h => h) (Or.inr ⟨by rfl, rfl⟩) ?_ ?_
                  rotate_left
                  · simp only [Act.put, List.setIfInBounds_toArray, List.set_cons_zero, List.set_cons_succ, i64_w, i32_w]
                    rfl
                  refine pure_ (i := 18) (N := some 53) (v := undef) (a' := ?_) #[true, true, true, true, true, true, true, true, true, true, true, true, true, true, true, true, true, true, true, false, false, false, false, false, false, false] rfl rfl (any_of HT_.out (by kernel_rfl)) (fun _ _ _ h => h) (Or.inr ⟨by rfl, rfl⟩) ?_ ?_
                  rotate_left
                  · simp only [Act.put, List.setIfInBounds_toArray, List.set_cons_zero, List.set_cons_succ, i64_w, i32_w]
                    rfl
                  refine pure_ (i := 19) (N := some 54) (v := undef) (a' := ?_) #[true, true, true, true, true, true, true, true, true, true, true, true, true, true, true, true, true, true, true, true, false, false, false, false, false, false] rfl rfl (any_of HT_.out (by kernel_rfl)) (fun _ _ _ h => h) (Or.inr ⟨by rfl, rfl⟩) ?_ ?_
                  rotate_left
                  · simp only [Act.put, List.setIfInBounds_toArray, List.set_cons_zero, List.set_cons_succ, i64_w, i32_w]
                    rfl
                  refine pure_ (i := 20) (N := some 55) (v := undef) (a' := ?_) #[true, true, true, true, true, true, true, true, true, true, true, true, true, true, true, true, true, true, true, true, true, false, false, false, false, false] rfl rfl (any_of HT_.out (by kernel_rfl)) (fun _ _ _ h => h) (Or.inr ⟨by rfl, rfl⟩) ?_ ?_
                  rotate_left
                  · simp only [Act.put, List.setIfInBounds_toArray, List.set_cons_zero, List.set_cons_succ, i64_w, i32_w]
                    rfl
                  refine pure_ (i := 21) (N := some 56) (v := undef) (a' := ?_) #[true, true, true, true, true, true, true, true, true, true, true, true, true, true, true, true, true, true, true, true, true, true, false, false, false, false] rfl rfl (any_of HT_.out (by kernel_rfl)) (fun _ _ _ h => h) (Or.inr ⟨by rfl, rfl⟩) ?_ ?_
                  rotate_left
                  · simp only [Act.put, List.setIfInBounds_toArray, List.set_cons_zero, List.set_cons_succ, i64_w, i32_w]
                    rfl
                  refine pure_ (i := 22) (N := some 57) (v := undef) (a' := ?_) #[true, true, true, true, true, true, true, true, true, true, true, true, true, true, true, true, true, true, true, true, true, true, true, false, false, false] rfl rfl (any_of HT_.out (by kernel_rfl)) (fun _ _ _ h => h) (Or.inr ⟨by rfl, rfl⟩) ?_ ?_
                  rotate_left
                  · simp only [Act.put, List.setIfInBounds_toArray, List.set_cons_zero, List.set_cons_succ, i64_w, i32_w]
                    rfl
                  refine pure_ (i := 23) (N := some 58) (v := undef) (a' := ?_) #[true, true, true, true, true, true, true, true, true, true, true, true, true, true, true, true, true, true, true, true, true, true, true, true, false, false] rfl rfl (any_of HT_.out (by kernel_rfl)) (fun _ _ _ h => h) (Or.inr ⟨by rfl, rfl⟩) ?_ ?_
                  rotate_left
                  · simp only [Act.put, List.setIfInBounds_toArray, List.set_cons_zero, List.set_cons_succ, i64_w, i32_w]
                    rfl
                  refine pure_ (i := 24) (N := some 59) (v := ?_) (a' := ?_) #[true, true, true, true, true, true, true, true, true, true, true, true, true, true, true, true, true, true, true, true, true, true, true, true, true, false] rfl rfl (any_of HT_.out (by kernel_rfl)) (fun _ _ _ h => h) (Or.inl ⟨by rfl, ?_⟩) ?_ ?_
                  rotate_left
                  · intro w'
                    go_simp
                    with_reducible rfl
                  rotate_left
                  · simp only [Act.put, List.setIfInBounds_toArray, List.set_cons_zero, List.set_cons_succ, i64_w, i32_w]
                    rfl
                  refine pure_ (i := 25) (N := some 6) (v := ?_) (a' := ?_) #[true, true, true, true, true, true, true, true, true, true, true, true, true, true, true, true, true, true, true, true, true, true, true, true, true, true] rfl rfl (any_of HT_.out (by kernel_rfl)) (fun _ _ _ h => h) (Or.inl ⟨by rfl, ?_⟩) ?_ ?_
                  rotate_left
                  · intro w'
                    go_simp
                    with_reducible rfl
                  rotate_left
                  · simp only [Act.put, List.setIfInBounds_toArray, List.set_cons_zero, List.set_cons_succ, i64_w, i32_w]
                    rfl
                  refine done_ (done_of HT_.out (by kernel_rfl)) ?_
                  try go_wp2
                  go_ret
                  exact ⟨by first | rfl | (simp [errW_none, errW_some] <;> rfl) | (simp [*, errW_none, errW_some] <;> rfl), by repeat (first | (with_reducible first | exact HB.out | apply below_alloc | apply pw_below_drewN | apply below_drew1) | exact HB.out)⟩
              · rw [if_neg c12] at H
                exact absurd H (by simp)
            · rw [if_neg c11] at H
              exact absurd H (by simp)
          · rw [if_neg c10] at H
            exact absurd H (by simp)
        · rw [if_neg c9] at H
          exact absurd H (by simp)

/-- THE ONE PURE STATEMENT of flaillaw01_UtfParts: yours. -/
def flaillaw01_UtfParts.Pure : Prop := ∀ (l0 : List Int) (l1 : List Int) (a2 : Int), l0.length ≤ maxLen → l0.length * 1 ≤ 140737488351232 → (∀ x ∈ l0, (Lit.int .u8 x).wf = true) → l1.length ≤ maxLen → l1.length * 1 ≤ 140737488351232 → (∀ x ∈ l1, (Lit.int .u8 x).wf = true) → (Lit.int .u8 a2).wf = true → ∃ k, flaillaw01_UtfParts.f k l0 l1 a2 = some true
theorem flaillaw01_UtfParts.walk (P : flaillaw01_UtfParts.Pure) (a0 : Option Addr) (len0 cap0 : Nat) (z0 : List Int) (a1 : Option Addr) (len1 cap1 : Nat) (z1 : List Int) (a2 : Int) (w : World) (w0 : (a0 = none ∧ len0 = 0 ∧ cap0 = 0 ∧ z0 = []) ∨ ∃ x, a0 = some x ∧ len0 ≤ cap0 ∧ cap0 ≤ maxLen ∧ z0.length = cap0 ∧ (∀ i, i < z0.length → w.cell? (x.add i) = some (.int .u8 (z0.getD i 0))) ∧ ∀ n ∈ z0, (Lit.int .u8 n).wf = true) (y0 : len0 * 1 ≤ 140737488351232) (w1 : (a1 = none ∧ len1 = 0 ∧ cap1 = 0 ∧ z1 = []) ∨ ∃ x, a1 = some x ∧ len1 ≤ cap1 ∧ cap1 ≤ maxLen ∧ z1.length = cap1 ∧ (∀ i, i < z1.length → w.cell? (x.add i) = some (.int .u8 (z1.getD i 0))) ∧ ∀ n ∈ z1, (Lit.int .u8 n).wf = true) (y1 : len1 * 1 ≤ 140737488351232) (w2 : (Lit.int .u8 a2).wf = true) :
    Calls Try.prog 7 #[.slice a0 len0 cap0, .slice a1 len1 cap1, .int .u8 a2] w fun e w' => e = .returned (.bool true) ∧ Below w.heap.size w w' := by
  obtain ⟨l0, rfl, hr0, hm0, hw0, hc0⟩ := ReadsInt.ofRowC w0
  obtain ⟨l1, rfl, hr1, hm1, hw1, hc1⟩ := ReadsInt.ofRowC w1
  obtain ⟨k, h⟩ := P l0 l1 a2 hm0 y0 hw0 hm1 y1 hw1 w2
  refine (flaillaw01_UtfParts.calls k _ _ l0 _ _ l1 a2 true w (Kd.C_of_reads (d := (0 : Int)) (h1 := fun _ => rfl) hr0) hc0 (Kd.C_of_reads (d := (0 : Int)) (h1 := fun _ => rfl) hr1) hc1 h).mono ?_
  rintro e w' ⟨rfl, hd⟩
  exact ⟨rfl, hd⟩

end Go.Proofs.Ytpflkcmjoiakfaa.PAll
