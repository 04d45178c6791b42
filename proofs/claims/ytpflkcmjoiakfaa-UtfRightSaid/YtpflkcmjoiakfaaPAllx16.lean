-- written by a program of ours, after the kit's print, for this claim (see the notes: handprint)
import Derived.Test.YtpflkcmjoiakfaaPAllx0
import Derived.Test.YtpflkcmjoiakfaaPAllx12
import Derived.Test.YtpflkcmjoiakfaaPAllx13
import Derived.Test.YtpflkcmjoiakfaaHand
namespace Go.Proofs.Ytpflkcmjoiakfaa.PAll
open Go.RowKit Go.Proofs.YtpflkcmjoiakfaaW.PrintWords Go.Proofs.YtpflkcmjoiakfaaW.PrintLast Go.Proofs.YtpflkcmjoiakfaaW.PrintMore
attribute [local go_sem] max2_int min2_int max_two min_two max_three min_three max_four min_four   -- for this text's walks alone
set_option linter.unusedVariables false
set_option linter.unusedSimpArgs false

/-! ### flaillaw01_UtfRight: function 5 -/
def flaillaw01_UtfRight.j0 : Nat → List Int → Bool → ByteArray → Bool → Option (Bool)
  | 0, _, _, _, _ => none
  | k + 1, x0, x3, x4, x23 => if x23 = true then (some false) else ((utf_Right.f (strOfNums x0)).bind fun t184 => (if t184 = true then ((flailref01_Begins.f (strOfNums x0) (⟨#[239, 187, 191]⟩ : ByteArray)).bind fun t185 => (if t185 = true then (if x3 = true then (if 3 ≤ (x0.length : Int) then (some (x4.toList == (strOfNums (x0.drop 3)).toList)) else (none)) else (some false)) else (if x3 = true then (some (x4.toList == (strOfNums x0).toList)) else (some false)))) else (if x3 = true then (some (x4.toList != (strOfNums x0).toList)) else (some false))))
def flaillaw01_UtfRight.f (k : Nat) (l0 : List Int) : Option (Bool) := (flaillaw01_awake.f).bind fun t181 => (if (l0.length : Int) > 300 then (some t181) else ((utf_Decode.f l0).bind fun t182 => ((utf_Right.f t182).bind fun t183 => (if t183 = true then (flaillaw01_UtfRight.j0 k l0 t181 t182 (decide ((t182.size : Int) > (wrap64 (3 * (l0.length : Int)))))) else (flaillaw01_UtfRight.j0 k l0 t181 t182 true)))))
theorem flaillaw01_UtfRight.mono_l : ∀ k, (∀ y0 y1 y2 y3, LeO (flaillaw01_UtfRight.j0 k y0 y1 y2 y3) (flaillaw01_UtfRight.j0 (k + 1) y0 y1 y2 y3))
  | 0 => fun _ _ _ _ r h => by simp [flaillaw01_UtfRight.j0] at h
  | k + 1 => by
    have ih0 := flaillaw01_UtfRight.mono_l k
    · intro y0 y1 y2 y3
      unfold flaillaw01_UtfRight.j0
      repeat' first
      | (with_reducible exact ih0 _ _ _ _)
      | (with_reducible exact LeO.refl _)
      | (with_reducible exact LeO.none _)
      | (with_reducible refine LeO.ite ?_ ?_)
      | (with_reducible refine LeO.bind ?_ (fun _ => ?_))
      | exact ih0 _ _ _ _
      | exact LeO.none _
      | refine LeO.ite ?_ ?_
      | refine LeO.bind ?_ (fun _ => ?_)
theorem flaillaw01_UtfRight.mono : ∀ a0 k, LeO (flaillaw01_UtfRight.f k a0) (flaillaw01_UtfRight.f (k + 1) a0) := by
  intro a0 k
  have ih0 := flaillaw01_UtfRight.mono_l k
  unfold flaillaw01_UtfRight.f
  repeat' first
      | (with_reducible exact ih0 _ _ _ _)
      | (with_reducible exact LeO.refl _)
      | (with_reducible exact LeO.none _)
      | (with_reducible refine LeO.ite ?_ ?_)
      | (with_reducible refine LeO.bind ?_ (fun _ => ?_))
      | exact ih0 _ _ _ _
      | exact LeO.none _
      | refine LeO.ite ?_ ?_
      | refine LeO.bind ?_ (fun _ => ?_)
set_option maxHeartbeats 8000000 in
set_option maxRecDepth 100000 in
theorem flaillaw01_UtfRight.calls (k : Nat) (A0 : Option Addr) (c0 : Nat) (l0 : List Int) (r : Bool) (w : World) (hr0 : Kd.C (Kd.int .u8) w A0 l0.length l0) (hc0 : l0.length ≤ c0) (h : flaillaw01_UtfRight.f k l0 = some r) :
    Calls Try.prog 5 #[.slice A0 l0.length c0] w fun e w' => e = .returned (.bool r) ∧ Below w.heap.size w w' := by
  have HR0 := Aside0.mk hr0
  have HC0 := Aside0.mk hc0
  clear hr0 hc0
  have HB := Aside0.mk (Below.refl w.heap.size w)
  have H : ((flaillaw01_awake.f).bind fun t181 => (if (l0.length : Int) > 300 then (some t181) else ((utf_Decode.f l0).bind fun t182 => ((utf_Right.f t182).bind fun t183 => (if t183 = true then (flaillaw01_UtfRight.j0 k l0 t181 t182 (decide ((t182.size : Int) > (wrap64 (3 * (l0.length : Int)))))) else (flaillaw01_UtfRight.j0 k l0 t181 t182 true)))))) = some r := h
  clear h
  replace H := Option.bind_eq_some_iff.mp H
  obtain ⟨t181, A20, H⟩ := H
  replace H : (if (l0.length : Int) > 300 then (some t181) else ((utf_Decode.f l0).bind fun t182 => ((utf_Right.f t182).bind fun t183 => (if t183 = true then (flaillaw01_UtfRight.j0 k l0 t181 t182 (decide ((t182.size : Int) > (wrap64 (3 * (l0.length : Int)))))) else (flaillaw01_UtfRight.j0 k l0 t181 t182 true))))) = some r := H
  have A2 := Aside0.mk A20
  clear A20
  by_cases c3 : (l0.length : Int) > 300
  · rw [if_pos c3] at H
    have c3b0 : decide (300 < (l0.length : Int)) = true := decide_eq_true c3
    have c3b1 : decide (300 < l0.length) = true := decide_eq_true (by omega)
    clear c3
    obtain rfl := Option.some.inj H
    go_enter Try.func5, Try.ntmps5
    go_wp2_with (first | ((with_reducible refine gate_callee (f := 10) rfl ?_); refine goesL_ (some 6) rfl rfl Try.func10 (by kernel_rfl) rfl #[] rfl (by (try simp only [List.map_toArray, List.map_cons, List.map_nil]); first | done | rfl | (simp only [List.length_drop, List.length_take]; rfl)) ?_; (with_reducible refine (flaillaw01_awake.calls  t181 _ A2.out).mono ?_); rintro e w4 ⟨rfl, hb⟩; refine ⟨_, rfl, ?_⟩; have n0_ := Aside0.mk (below_step (by repeat (first | (with_reducible first | exact HB.out | apply below_alloc | apply pw_below_drewN | apply below_drew1) | exact HB.out)) hb); clear HB; have HB := n0_; clear n0_; (try clear hb); (try clear hb2); (try clear hk); (try clear hi)))
    go_ret
    exact ⟨by first | rfl | (simp [errW_none, errW_some] <;> rfl) | (simp [*, errW_none, errW_some] <;> rfl), by repeat (first | (with_reducible first | exact HB.out | apply below_alloc | apply pw_below_drewN | apply below_drew1) | exact HB.out)⟩
  · rw [if_neg c3] at H
    have c3b0 : decide (300 < (l0.length : Int)) = false := decide_eq_false c3
    have c3b1 : decide (300 < l0.length) = false := decide_eq_false (by omega)
    clear c3
    replace H := Option.bind_eq_some_iff.mp H
    obtain ⟨t182, A50, H⟩ := H
    replace H : ((utf_Right.f t182).bind fun t183 => (if t183 = true then (flaillaw01_UtfRight.j0 k l0 t181 t182 (decide ((t182.size : Int) > (wrap64 (3 * (l0.length : Int)))))) else (flaillaw01_UtfRight.j0 k l0 t181 t182 true))) = some r := H
    have A5 := Aside0.mk A50
    clear A50
    have HC6 := Aside0.mk H
    clear H
    go_enter Try.func5, Try.ntmps5
    go_upto_region 5 with (first | ((with_reducible refine gate_callee (f := 10) rfl ?_); refine goesL_ (some 6) rfl rfl Try.func10 (by kernel_rfl) rfl #[] rfl (by (try simp only [List.map_toArray, List.map_cons, List.map_nil]); first | done | rfl | (simp only [List.length_drop, List.length_take]; rfl)) ?_; (with_reducible refine (flaillaw01_awake.calls  t181 _ A2.out).mono ?_); rintro e w7 ⟨rfl, hb⟩; refine ⟨_, rfl, ?_⟩; have n0_ := Aside0.mk (below_step (by repeat (first | (with_reducible first | exact HB.out | apply below_alloc | apply pw_below_drewN | apply below_drew1) | exact HB.out)) hb); clear HB; have HB := n0_; clear n0_; (try clear hb); (try clear hb2); (try clear hk); (try clear hi)) | ((with_reducible refine gate_callee (f := 11) rfl ?_); refine goesL_ (some 12) rfl rfl Try.func11 (by kernel_rfl) rfl #[.slice A0 l0.length c0] rfl (by (try simp only [List.map_toArray, List.map_cons, List.map_nil]); first | done | rfl | (simp only [List.length_drop, List.length_take]; rfl)) ?_; (with_reducible refine (utf_Decode.calls _ _ l0 t182 _ ?side1 ?side2 A5.out).mono ?_); (case side1 => repeat (first | exact (Kd.C_below HR0.out HB.out) | (with_reducible refine Kd.C_alloc ?_ _) | (with_reducible refine Kd.C_drewN ?_ _) | (with_reducible refine Kd.C_drew ?_))); (case side2 => exact HC0.out); rintro e w8 ⟨rfl, hb⟩; refine ⟨_, rfl, ?_⟩; have n0_ := Aside0.mk (below_step (by repeat (first | (with_reducible first | exact HB.out | apply below_alloc | apply pw_below_drewN | apply below_drew1) | exact HB.out)) hb); clear HB; have HB := n0_; clear n0_; (try clear hb); (try clear hb2); (try clear hk); (try clear hi)))
    (try simp only [Act.put, List.setIfInBounds_toArray, List.set_cons_zero, List.set_cons_succ])
    go_cut [23] (fun v23 wc => ∃ (kq : Nat) (x23_5 : Bool), v23 = .bool x23_5 ∧ Aside0 (flaillaw01_UtfRight.j0 kq l0 t181 t182 x23_5 = some r) ∧ Aside0 (kq ≤ k) ∧ Aside0 (Below w.heap.size w wc))
    case first =>
      have H := HC6.out
      clear HC6
      replace H := Option.bind_eq_some_iff.mp H
      obtain ⟨t183, A90, H⟩ := H
      replace H : (if t183 = true then (flaillaw01_UtfRight.j0 k l0 t181 t182 (decide ((t182.size : Int) > (wrap64 (3 * (l0.length : Int)))))) else (flaillaw01_UtfRight.j0 k l0 t181 t182 true)) = some r := H
      have A9 := Aside0.mk A90
      clear A90
      by_cases c10 : t183 = true
      · subst c10
        have H1 : (flaillaw01_UtfRight.j0 k l0 t181 t182 (decide ((t182.size : Int) > (wrap64 (3 * (l0.length : Int)))))) = some r := by rw [if_pos rfl] at H; exact H
        clear H
        have H := H1
        clear H1
        have H' := Aside0.mk H
        clear H
        go_wp2_with (first | ((with_reducible refine gate_callee (f := 13) rfl ?_); refine goesL_ (some 14) rfl rfl Try.func13 (by kernel_rfl) rfl #[.string t182] rfl (by (try simp only [List.map_toArray, List.map_cons, List.map_nil]); first | done | rfl | (simp only [List.length_drop, List.length_take]; rfl)) ?_; (with_reducible refine (utf_Right.calls t182 true _ A9.out).mono ?_); rintro e w11 ⟨rfl, hb⟩; refine ⟨_, rfl, ?_⟩; have n0_ := Aside0.mk (below_step (by repeat (first | (with_reducible first | exact HB.out | apply below_alloc | apply pw_below_drewN | apply below_drew1) | exact HB.out)) hb); clear HB; have HB := n0_; clear n0_; (try clear hb); (try clear hb2); (try clear hk); (try clear hi)))
        go_meet
        case rel => exact ⟨_, (decide ((t182.size : Int) > (wrap64 (3 * (l0.length : Int))))), (by first | rfl | (simp; done) | (simp [*]; done)), H', ⟨by first | omega | exact Nat.le_refl _⟩, ⟨by repeat (first | (with_reducible first | exact HB.out | apply below_alloc | apply pw_below_drewN | apply below_drew1) | exact HB.out)⟩⟩
      · replace c10 := Bool.eq_false_iff.mpr c10
        subst c10
        have H1 : (flaillaw01_UtfRight.j0 k l0 t181 t182 true) = some r := by rw [if_neg (show ¬ (false = true) by decide)] at H; exact H
        clear H
        have H := H1
        clear H1
        have H' := Aside0.mk H
        clear H
        go_wp2_with (first | ((with_reducible refine gate_callee (f := 13) rfl ?_); refine goesL_ (some 14) rfl rfl Try.func13 (by kernel_rfl) rfl #[.string t182] rfl (by (try simp only [List.map_toArray, List.map_cons, List.map_nil]); first | done | rfl | (simp only [List.length_drop, List.length_take]; rfl)) ?_; (with_reducible refine (utf_Right.calls t182 false _ A9.out).mono ?_); rintro e w12 ⟨rfl, hb⟩; refine ⟨_, rfl, ?_⟩; have n0_ := Aside0.mk (below_step (by repeat (first | (with_reducible first | exact HB.out | apply below_alloc | apply pw_below_drewN | apply below_drew1) | exact HB.out)) hb); clear HB; have HB := n0_; clear n0_; (try clear hb); (try clear hb2); (try clear hk); (try clear hi)))
        go_meet
        case rel => exact ⟨_, (true), (by first | rfl | (simp; done) | (simp [*]; done)), H', ⟨by first | omega | exact Nat.le_refl _⟩, ⟨by repeat (first | (with_reducible first | exact HB.out | apply below_alloc | apply pw_below_drewN | apply below_drew1) | exact HB.out)⟩⟩
    case rest =>
      clear HC6
      try clear c1
      try clear p2
      try clear c3
      try clear c3b0
      try clear c3b1
      try clear c5
      try clear p6
      try clear c10
      try clear c11
      obtain ⟨kq, x23_5, rfl, HA, HJ5, HB⟩ := hcut
      cases kq with
      | zero => exact absurd HA.out (by simp [flaillaw01_UtfRight.j0])
      | succ kj5 =>
        have H := HA.out
        clear HA
        simp only [flaillaw01_UtfRight.j0] at H
        by_cases c13 : x23_5 = true
        · subst c13
          have H1 : (some false) = some r := by rw [if_pos rfl] at H; exact H
          clear H
          have H := H1
          clear H1
          obtain rfl := Option.some.inj H
          go_wp2
          go_ret
          exact ⟨by first | rfl | (simp [errW_none, errW_some] <;> rfl) | (simp [*, errW_none, errW_some] <;> rfl), by repeat (first | (with_reducible first | exact HB.out | apply below_alloc | apply pw_below_drewN | apply below_drew1) | exact HB.out)⟩
        · replace c13 := Bool.eq_false_iff.mpr c13
          subst c13
          have H1 : ((utf_Right.f (strOfNums l0)).bind fun t184 => (if t184 = true then ((flailref01_Begins.f (strOfNums l0) (⟨#[239, 187, 191]⟩ : ByteArray)).bind fun t185 => (if t185 = true then (if t181 = true then (if 3 ≤ (l0.length : Int) then (some (t182.toList == (strOfNums (l0.drop 3)).toList)) else (none)) else (some false)) else (if t181 = true then (some (t182.toList == (strOfNums l0).toList)) else (some false)))) else (if t181 = true then (some (t182.toList != (strOfNums l0).toList)) else (some false)))) = some r := by rw [if_neg (show ¬ (false = true) by decide)] at H; exact H
          clear H
          have H := H1
          clear H1
          replace H := Option.bind_eq_some_iff.mp H
          obtain ⟨t184, A140, H⟩ := H
          replace H : (if t184 = true then ((flailref01_Begins.f (strOfNums l0) (⟨#[239, 187, 191]⟩ : ByteArray)).bind fun t185 => (if t185 = true then (if t181 = true then (if 3 ≤ (l0.length : Int) then (some (t182.toList == (strOfNums (l0.drop 3)).toList)) else (none)) else (some false)) else (if t181 = true then (some (t182.toList == (strOfNums l0).toList)) else (some false)))) else (if t181 = true then (some (t182.toList != (strOfNums l0).toList)) else (some false))) = some r := H
          have A14 := Aside0.mk A140
          clear A140
          by_cases c15 : t184 = true
          · subst c15
            have H1 : ((flailref01_Begins.f (strOfNums l0) (⟨#[239, 187, 191]⟩ : ByteArray)).bind fun t185 => (if t185 = true then (if t181 = true then (if 3 ≤ (l0.length : Int) then (some (t182.toList == (strOfNums (l0.drop 3)).toList)) else (none)) else (some false)) else (if t181 = true then (some (t182.toList == (strOfNums l0).toList)) else (some false)))) = some r := by rw [if_pos rfl] at H; exact H
            clear H
            have H := H1
            clear H1
            replace H := Option.bind_eq_some_iff.mp H
            obtain ⟨t185, A160, H⟩ := H
            replace H : (if t185 = true then (if t181 = true then (if 3 ≤ (l0.length : Int) then (some (t182.toList == (strOfNums (l0.drop 3)).toList)) else (none)) else (some false)) else (if t181 = true then (some (t182.toList == (strOfNums l0).toList)) else (some false))) = some r := H
            have A16 := Aside0.mk A160
            clear A160
            by_cases c17 : t185 = true
            · subst c17
              have H1 : (if t181 = true then (if 3 ≤ (l0.length : Int) then (some (t182.toList == (strOfNums (l0.drop 3)).toList)) else (none)) else (some false)) = some r := by rw [if_pos rfl] at H; exact H
              clear H
              have H := H1
              clear H1
              by_cases c18 : t181 = true
              · subst c18
                have H1 : (if 3 ≤ (l0.length : Int) then (some (t182.toList == (strOfNums (l0.drop 3)).toList)) else (none)) = some r := by rw [if_pos rfl] at H; exact H
                clear H
                have H := H1
                clear H1
                by_cases c19 : 3 ≤ (l0.length : Int)
                · rw [if_pos c19] at H
                  have c19b0 := eq_true c19
                  have c19b1 : decide (3 ≤ (l0.length : Int)) = true := decide_eq_true c19
                  clear c19
                  obtain rfl := Option.some.inj H
                  have hcv20 := Kd.C_string (P := Try.prog) (A := A0) (c := c0) Try.underlying22 Try.underlying5 Try.underlying9 (Kd.C_below HR0.out HB.out)
                  go_wp2_with (first | ((with_reducible refine gate_callee (f := 13) rfl ?_); refine goesL_ (some 26) rfl rfl Try.func13 (by kernel_rfl) rfl #[.string (strOfNums l0)] rfl (by (try simp only [List.map_toArray, List.map_cons, List.map_nil]); first | done | rfl | (simp only [List.length_drop, List.length_take]; rfl)) ?_; (with_reducible refine (utf_Right.calls (strOfNums l0) true _ A14.out).mono ?_); rintro e w21 ⟨rfl, hb⟩; refine ⟨_, rfl, ?_⟩; have n0_ := Aside0.mk (below_step (by repeat (first | (with_reducible first | exact HB.out | apply below_alloc | apply pw_below_drewN | apply below_drew1) | exact HB.out)) hb); clear HB; have HB := n0_; clear n0_; (try clear hb); (try clear hb2); (try clear hk); (try clear hi); have hcv22 := Kd.C_string (P := Try.prog) (A := A0) (c := c0) Try.underlying22 Try.underlying5 Try.underlying9 (Kd.C_below HR0.out HB.out)) | ((with_reducible refine gate_callee (f := 17) rfl ?_); refine goesL_ (some 37) rfl rfl Try.func17 (by kernel_rfl) rfl #[.string (strOfNums l0), .string (⟨#[239, 187, 191]⟩ : ByteArray)] rfl (by (try simp only [List.map_toArray, List.map_cons, List.map_nil]); first | done | rfl | (simp only [List.length_drop, List.length_take]; rfl)) ?_; (with_reducible refine (flailref01_Begins.calls (strOfNums l0) (⟨#[239, 187, 191]⟩ : ByteArray) true _ A16.out).mono ?_); rintro e w' ⟨rfl, ⟨nd, rfl⟩⟩; refine ⟨_, rfl, ?_⟩; obtain ⟨i023, hi023, _, hsz23, _⟩ := info_parts info5; obtain ⟨A23, hcut23, hA23, hC23⟩ := print_drop_of (P := Try.prog) (Value.int .u8) 0 22 5 .i64 Try.underlying22 hi023 hsz23 A0 c0 l0 3 (by omega) (of_decide_eq_true (by first | (with_reducible assumption) | assumption)) HC0.out; have HR186 := Aside0.mk (Kd.C_of_reads (h1 := fun _ => rfl) (hA23 _ (Kd.reads_of_C HR0.out))); have HC186 := Aside0.mk hC23; clear hA23 hC23 hi023 hsz23; have hcv24 := Kd.C_string (P := Try.prog) (A := A23) (c := (c0 - 3)) Try.underlying22 Try.underlying5 Try.underlying9 (Kd.C_drewN (Kd.C_below HR186.out HB.out) nd); (try rw [List.length_drop] at hcv24); (try simp only [Int.reduceToNat] at hcv24)))
                  go_ret
                  exact ⟨by first | rfl | (simp [errW_none, errW_some] <;> rfl) | (simp [*, errW_none, errW_some] <;> rfl), by repeat (first | (with_reducible first | exact HB.out | apply below_alloc | apply pw_below_drewN | apply below_drew1) | exact HB.out)⟩
                · rw [if_neg c19] at H
                  exact absurd H (by simp)
              · replace c18 := Bool.eq_false_iff.mpr c18
                subst c18
                have H1 : (some false) = some r := by rw [if_neg (show ¬ (false = true) by decide)] at H; exact H
                clear H
                have H := H1
                clear H1
                obtain rfl := Option.some.inj H
                have hcv25 := Kd.C_string (P := Try.prog) (A := A0) (c := c0) Try.underlying22 Try.underlying5 Try.underlying9 (Kd.C_below HR0.out HB.out)
                go_wp2_with (first | ((with_reducible refine gate_callee (f := 13) rfl ?_); refine goesL_ (some 26) rfl rfl Try.func13 (by kernel_rfl) rfl #[.string (strOfNums l0)] rfl (by (try simp only [List.map_toArray, List.map_cons, List.map_nil]); first | done | rfl | (simp only [List.length_drop, List.length_take]; rfl)) ?_; (with_reducible refine (utf_Right.calls (strOfNums l0) true _ A14.out).mono ?_); rintro e w26 ⟨rfl, hb⟩; refine ⟨_, rfl, ?_⟩; have n0_ := Aside0.mk (below_step (by repeat (first | (with_reducible first | exact HB.out | apply below_alloc | apply pw_below_drewN | apply below_drew1) | exact HB.out)) hb); clear HB; have HB := n0_; clear n0_; (try clear hb); (try clear hb2); (try clear hk); (try clear hi); have hcv27 := Kd.C_string (P := Try.prog) (A := A0) (c := c0) Try.underlying22 Try.underlying5 Try.underlying9 (Kd.C_below HR0.out HB.out)) | ((with_reducible refine gate_callee (f := 17) rfl ?_); refine goesL_ (some 37) rfl rfl Try.func17 (by kernel_rfl) rfl #[.string (strOfNums l0), .string (⟨#[239, 187, 191]⟩ : ByteArray)] rfl (by (try simp only [List.map_toArray, List.map_cons, List.map_nil]); first | done | rfl | (simp only [List.length_drop, List.length_take]; rfl)) ?_; (with_reducible refine (flailref01_Begins.calls (strOfNums l0) (⟨#[239, 187, 191]⟩ : ByteArray) true _ A16.out).mono ?_); rintro e w' ⟨rfl, ⟨nd, rfl⟩⟩; refine ⟨_, rfl, ?_⟩))
                go_ret
                exact ⟨by first | rfl | (simp [errW_none, errW_some] <;> rfl) | (simp [*, errW_none, errW_some] <;> rfl), by repeat (first | (with_reducible first | exact HB.out | apply below_alloc | apply pw_below_drewN | apply below_drew1) | exact HB.out)⟩
            · replace c17 := Bool.eq_false_iff.mpr c17
              subst c17
              have H1 : (if t181 = true then (some (t182.toList == (strOfNums l0).toList)) else (some false)) = some r := by rw [if_neg (show ¬ (false = true) by decide)] at H; exact H
              clear H
              have H := H1
              clear H1
              by_cases c28 : t181 = true
              · subst c28
                have H1 : (some (t182.toList == (strOfNums l0).toList)) = some r := by rw [if_pos rfl] at H; exact H
                clear H
                have H := H1
                clear H1
                obtain rfl := Option.some.inj H
                have hcv29 := Kd.C_string (P := Try.prog) (A := A0) (c := c0) Try.underlying22 Try.underlying5 Try.underlying9 (Kd.C_below HR0.out HB.out)
                go_wp2_with (first | ((with_reducible refine gate_callee (f := 13) rfl ?_); refine goesL_ (some 26) rfl rfl Try.func13 (by kernel_rfl) rfl #[.string (strOfNums l0)] rfl (by (try simp only [List.map_toArray, List.map_cons, List.map_nil]); first | done | rfl | (simp only [List.length_drop, List.length_take]; rfl)) ?_; (with_reducible refine (utf_Right.calls (strOfNums l0) true _ A14.out).mono ?_); rintro e w30 ⟨rfl, hb⟩; refine ⟨_, rfl, ?_⟩; have n0_ := Aside0.mk (below_step (by repeat (first | (with_reducible first | exact HB.out | apply below_alloc | apply pw_below_drewN | apply below_drew1) | exact HB.out)) hb); clear HB; have HB := n0_; clear n0_; (try clear hb); (try clear hb2); (try clear hk); (try clear hi); have hcv31 := Kd.C_string (P := Try.prog) (A := A0) (c := c0) Try.underlying22 Try.underlying5 Try.underlying9 (Kd.C_below HR0.out HB.out)) | ((with_reducible refine gate_callee (f := 17) rfl ?_); refine goesL_ (some 37) rfl rfl Try.func17 (by kernel_rfl) rfl #[.string (strOfNums l0), .string (⟨#[239, 187, 191]⟩ : ByteArray)] rfl (by (try simp only [List.map_toArray, List.map_cons, List.map_nil]); first | done | rfl | (simp only [List.length_drop, List.length_take]; rfl)) ?_; (with_reducible refine (flailref01_Begins.calls (strOfNums l0) (⟨#[239, 187, 191]⟩ : ByteArray) false _ A16.out).mono ?_); rintro e w' ⟨rfl, ⟨nd, rfl⟩⟩; refine ⟨_, rfl, ?_⟩; have hcv32 := Kd.C_string (P := Try.prog) (A := A0) (c := c0) Try.underlying22 Try.underlying5 Try.underlying9 (Kd.C_drewN (Kd.C_below HR0.out HB.out) nd)))
                go_ret
                exact ⟨by first | rfl | (simp [errW_none, errW_some] <;> rfl) | (simp [*, errW_none, errW_some] <;> rfl), by repeat (first | (with_reducible first | exact HB.out | apply below_alloc | apply pw_below_drewN | apply below_drew1) | exact HB.out)⟩
              · replace c28 := Bool.eq_false_iff.mpr c28
                subst c28
                have H1 : (some false) = some r := by rw [if_neg (show ¬ (false = true) by decide)] at H; exact H
                clear H
                have H := H1
                clear H1
                obtain rfl := Option.some.inj H
                have hcv33 := Kd.C_string (P := Try.prog) (A := A0) (c := c0) Try.underlying22 Try.underlying5 Try.underlying9 (Kd.C_below HR0.out HB.out)
                go_wp2_with (first | ((with_reducible refine gate_callee (f := 13) rfl ?_); refine goesL_ (some 26) rfl rfl Try.func13 (by kernel_rfl) rfl #[.string (strOfNums l0)] rfl (by (try simp only [List.map_toArray, List.map_cons, List.map_nil]); first | done | rfl | (simp only [List.length_drop, List.length_take]; rfl)) ?_; (with_reducible refine (utf_Right.calls (strOfNums l0) true _ A14.out).mono ?_); rintro e w34 ⟨rfl, hb⟩; refine ⟨_, rfl, ?_⟩; have n0_ := Aside0.mk (below_step (by repeat (first | (with_reducible first | exact HB.out | apply below_alloc | apply pw_below_drewN | apply below_drew1) | exact HB.out)) hb); clear HB; have HB := n0_; clear n0_; (try clear hb); (try clear hb2); (try clear hk); (try clear hi); have hcv35 := Kd.C_string (P := Try.prog) (A := A0) (c := c0) Try.underlying22 Try.underlying5 Try.underlying9 (Kd.C_below HR0.out HB.out)) | ((with_reducible refine gate_callee (f := 17) rfl ?_); refine goesL_ (some 37) rfl rfl Try.func17 (by kernel_rfl) rfl #[.string (strOfNums l0), .string (⟨#[239, 187, 191]⟩ : ByteArray)] rfl (by (try simp only [List.map_toArray, List.map_cons, List.map_nil]); first | done | rfl | (simp only [List.length_drop, List.length_take]; rfl)) ?_; (with_reducible refine (flailref01_Begins.calls (strOfNums l0) (⟨#[239, 187, 191]⟩ : ByteArray) false _ A16.out).mono ?_); rintro e w' ⟨rfl, ⟨nd, rfl⟩⟩; refine ⟨_, rfl, ?_⟩))
                go_ret
                exact ⟨by first | rfl | (simp [errW_none, errW_some] <;> rfl) | (simp [*, errW_none, errW_some] <;> rfl), by repeat (first | (with_reducible first | exact HB.out | apply below_alloc | apply pw_below_drewN | apply below_drew1) | exact HB.out)⟩
          · replace c15 := Bool.eq_false_iff.mpr c15
            subst c15
            have H1 : (if t181 = true then (some (t182.toList != (strOfNums l0).toList)) else (some false)) = some r := by rw [if_neg (show ¬ (false = true) by decide)] at H; exact H
            clear H
            have H := H1
            clear H1
            by_cases c36 : t181 = true
            · subst c36
              have H1 : (some (t182.toList != (strOfNums l0).toList)) = some r := by rw [if_pos rfl] at H; exact H
              clear H
              have H := H1
              clear H1
              obtain rfl := Option.some.inj H
              have hcv37 := Kd.C_string (P := Try.prog) (A := A0) (c := c0) Try.underlying22 Try.underlying5 Try.underlying9 (Kd.C_below HR0.out HB.out)
              go_wp2_with (first | ((with_reducible refine gate_callee (f := 13) rfl ?_); refine goesL_ (some 26) rfl rfl Try.func13 (by kernel_rfl) rfl #[.string (strOfNums l0)] rfl (by (try simp only [List.map_toArray, List.map_cons, List.map_nil]); first | done | rfl | (simp only [List.length_drop, List.length_take]; rfl)) ?_; (with_reducible refine (utf_Right.calls (strOfNums l0) false _ A14.out).mono ?_); rintro e w38 ⟨rfl, hb⟩; refine ⟨_, rfl, ?_⟩; have n0_ := Aside0.mk (below_step (by repeat (first | (with_reducible first | exact HB.out | apply below_alloc | apply pw_below_drewN | apply below_drew1) | exact HB.out)) hb); clear HB; have HB := n0_; clear n0_; (try clear hb); (try clear hb2); (try clear hk); (try clear hi); have hcv39 := Kd.C_string (P := Try.prog) (A := A0) (c := c0) Try.underlying22 Try.underlying5 Try.underlying9 (Kd.C_below HR0.out HB.out)))
              go_ret
              exact ⟨by first | rfl | (simp [errW_none, errW_some] <;> rfl) | (simp [*, errW_none, errW_some] <;> rfl), by repeat (first | (with_reducible first | exact HB.out | apply below_alloc | apply pw_below_drewN | apply below_drew1) | exact HB.out)⟩
            · replace c36 := Bool.eq_false_iff.mpr c36
              subst c36
              have H1 : (some false) = some r := by rw [if_neg (show ¬ (false = true) by decide)] at H; exact H
              clear H
              have H := H1
              clear H1
              obtain rfl := Option.some.inj H
              have hcv40 := Kd.C_string (P := Try.prog) (A := A0) (c := c0) Try.underlying22 Try.underlying5 Try.underlying9 (Kd.C_below HR0.out HB.out)
              go_wp2_with (first | ((with_reducible refine gate_callee (f := 13) rfl ?_); refine goesL_ (some 26) rfl rfl Try.func13 (by kernel_rfl) rfl #[.string (strOfNums l0)] rfl (by (try simp only [List.map_toArray, List.map_cons, List.map_nil]); first | done | rfl | (simp only [List.length_drop, List.length_take]; rfl)) ?_; (with_reducible refine (utf_Right.calls (strOfNums l0) false _ A14.out).mono ?_); rintro e w41 ⟨rfl, hb⟩; refine ⟨_, rfl, ?_⟩; have n0_ := Aside0.mk (below_step (by repeat (first | (with_reducible first | exact HB.out | apply below_alloc | apply pw_below_drewN | apply below_drew1) | exact HB.out)) hb); clear HB; have HB := n0_; clear n0_; (try clear hb); (try clear hb2); (try clear hk); (try clear hi)))
              go_ret
              exact ⟨by first | rfl | (simp [errW_none, errW_some] <;> rfl) | (simp [*, errW_none, errW_some] <;> rfl), by repeat (first | (with_reducible first | exact HB.out | apply below_alloc | apply pw_below_drewN | apply below_drew1) | exact HB.out)⟩

/-- THE ONE PURE STATEMENT of flaillaw01_UtfRight: yours. -/
def flaillaw01_UtfRight.Pure : Prop := ∀ (l0 : List Int), l0.length ≤ maxLen → l0.length * 1 ≤ 140737488351232 → (∀ x ∈ l0, (Lit.int .u8 x).wf = true) → ∃ k, flaillaw01_UtfRight.f k l0 = some true
theorem flaillaw01_UtfRight.walk (P : flaillaw01_UtfRight.Pure) (a0 : Option Addr) (len0 cap0 : Nat) (z0 : List Int) (w : World) (w0 : (a0 = none ∧ len0 = 0 ∧ cap0 = 0 ∧ z0 = []) ∨ ∃ x, a0 = some x ∧ len0 ≤ cap0 ∧ cap0 ≤ maxLen ∧ z0.length = cap0 ∧ (∀ i, i < z0.length → w.cell? (x.add i) = some (.int .u8 (z0.getD i 0))) ∧ ∀ n ∈ z0, (Lit.int .u8 n).wf = true) (y0 : len0 * 1 ≤ 140737488351232) :
    Calls Try.prog 5 #[.slice a0 len0 cap0] w fun e w' => e = .returned (.bool true) ∧ Below w.heap.size w w' := by
  obtain ⟨l0, rfl, hr0, hm0, hw0, hc0⟩ := ReadsInt.ofRowC w0
  obtain ⟨k, h⟩ := P l0 hm0 y0 hw0
  refine (flaillaw01_UtfRight.calls k _ _ l0 true w (Kd.C_of_reads (d := (0 : Int)) (h1 := fun _ => rfl) hr0) hc0 h).mono ?_
  rintro e w' ⟨rfl, hd⟩
  exact ⟨rfl, hd⟩

end Go.Proofs.Ytpflkcmjoiakfaa.PAll
