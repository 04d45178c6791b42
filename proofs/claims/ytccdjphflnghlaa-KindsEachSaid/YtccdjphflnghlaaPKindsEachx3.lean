-- PRINTED BY print.sh 35421559b90ae4d0a3588c463048766b98c2df88dd9212a6774a882060cdf62d: not written by this session
import Derived.Test.YtccdjphflnghlaaPKindsEachx0
import Derived.Test.YtccdjphflnghlaaPKindsEachx1
import Derived.Test.YtccdjphflnghlaaPKindsEachx2
namespace Go.Proofs.Ytccdjphflnghlaa.PKindsEach
open Go.RowKit Go.Proofs.YtccdjphflnghlaaW.PrintWords Go.Proofs.YtccdjphflnghlaaW.PrintLast Go.Proofs.YtccdjphflnghlaaW.PrintMore
attribute [local go_sem] max2_int min2_int max_two min_two max_three min_three max_four min_four   -- for this text's walks alone
set_option linter.unusedVariables false
set_option linter.unusedSimpArgs false

/-! ### flaillaw17_KindsEach: function 4 -/
def flaillaw17_KindsEach.f (k : Nat) (a0 : Int) : Option (Bool) := (flaillaw17_awake.f k).bind fun t137 => ((flailref17_Names.f).bind fun t138 => (if (t138.length : Int) = 0 then (none) else (if 0 ≤ (Int.tmod (wrap64 (a0)) (t138.length : Int)) then (if (Int.tmod (wrap64 (a0)) (t138.length : Int)) < (t138.length : Int) then (if t137 = true then ((kinds_Hides.f k (rdOf ByteArray.empty t138 (Int.tmod (wrap64 (a0)) (t138.length : Int)))).bind fun t142 => ((flailref17_Hides.f (rdOf ByteArray.empty t138 (Int.tmod (wrap64 (a0)) (t138.length : Int)))).bind fun t143 => (if (t142 == t143) = true then ((kinds_Keeps.f k (rdOf ByteArray.empty t138 (Int.tmod (wrap64 (a0)) (t138.length : Int)))).bind fun t144 => ((flailref17_Keeps.f (rdOf ByteArray.empty t138 (Int.tmod (wrap64 (a0)) (t138.length : Int)))).bind fun t145 => (if (t144 == t145) = true then ((kinds_Lines.f k (rdOf ByteArray.empty t138 (Int.tmod (wrap64 (a0)) (t138.length : Int)))).bind fun t146 => ((flailref17_Lines.f k (rdOf ByteArray.empty t138 (Int.tmod (wrap64 (a0)) (t138.length : Int)))).bind fun t147 => (if t146 = t147 then ((kinds_Void.f k (rdOf ByteArray.empty t138 (Int.tmod (wrap64 (a0)) (t138.length : Int)))).bind fun t148 => ((flailref17_Void.f (rdOf ByteArray.empty t138 (Int.tmod (wrap64 (a0)) (t138.length : Int)))).bind fun t149 => (some (t148 == t149)))) else (some false)))) else (some false)))) else (some false)))) else (some false)) else (none)) else (none))))
theorem flaillaw17_KindsEach.mono : ∀ a0 k, LeO (flaillaw17_KindsEach.f k a0) (flaillaw17_KindsEach.f (k + 1) a0) := by
  intro a0 k
  unfold flaillaw17_KindsEach.f
  repeat' first
      | (with_reducible exact flaillaw17_awake.mono _)
      | (with_reducible exact flailref17_Lines.mono _ _)
      | (with_reducible exact kinds_Hides.mono _ _)
      | (with_reducible exact kinds_Keeps.mono _ _)
      | (with_reducible exact kinds_Lines.mono _ _)
      | (with_reducible exact kinds_Void.mono _ _)
      | (with_reducible exact LeO.refl _)
      | (with_reducible exact LeO.none _)
      | (with_reducible refine LeO.ite ?_ ?_)
      | (with_reducible refine LeO.bind ?_ (fun _ => ?_))
      | exact flaillaw17_awake.mono _
      | exact flailref17_Lines.mono _ _
      | exact kinds_Hides.mono _ _
      | exact kinds_Keeps.mono _ _
      | exact kinds_Lines.mono _ _
      | exact kinds_Void.mono _ _
      | exact LeO.none _
      | refine LeO.ite ?_ ?_
      | refine LeO.bind ?_ (fun _ => ?_)
set_option maxHeartbeats 8000000 in
set_option maxRecDepth 100000 in
theorem flaillaw17_KindsEach.calls (k : Nat) (a0 : Int) (r : Bool) (w : World) (h : flaillaw17_KindsEach.f k a0 = some r) :
    Calls Try.prog 4 #[.int .u16 a0] w fun e w' => e = .returned (.bool r) ∧ Below w.heap.size w w' := by
  have HB := Aside0.mk (Below.refl w.heap.size w)
  have H : ((flaillaw17_awake.f k).bind fun t137 => ((flailref17_Names.f).bind fun t138 => (if (t138.length : Int) = 0 then (none) else (if 0 ≤ (Int.tmod (wrap64 (a0)) (t138.length : Int)) then (if (Int.tmod (wrap64 (a0)) (t138.length : Int)) < (t138.length : Int) then (if t137 = true then ((kinds_Hides.f k (rdOf ByteArray.empty t138 (Int.tmod (wrap64 (a0)) (t138.length : Int)))).bind fun t142 => ((flailref17_Hides.f (rdOf ByteArray.empty t138 (Int.tmod (wrap64 (a0)) (t138.length : Int)))).bind fun t143 => (if (t142 == t143) = true then ((kinds_Keeps.f k (rdOf ByteArray.empty t138 (Int.tmod (wrap64 (a0)) (t138.length : Int)))).bind fun t144 => ((flailref17_Keeps.f (rdOf ByteArray.empty t138 (Int.tmod (wrap64 (a0)) (t138.length : Int)))).bind fun t145 => (if (t144 == t145) = true then ((kinds_Lines.f k (rdOf ByteArray.empty t138 (Int.tmod (wrap64 (a0)) (t138.length : Int)))).bind fun t146 => ((flailref17_Lines.f k (rdOf ByteArray.empty t138 (Int.tmod (wrap64 (a0)) (t138.length : Int)))).bind fun t147 => (if t146 = t147 then ((kinds_Void.f k (rdOf ByteArray.empty t138 (Int.tmod (wrap64 (a0)) (t138.length : Int)))).bind fun t148 => ((flailref17_Void.f (rdOf ByteArray.empty t138 (Int.tmod (wrap64 (a0)) (t138.length : Int)))).bind fun t149 => (some (t148 == t149)))) else (some false)))) else (some false)))) else (some false)))) else (some false)) else (none)) else (none))))) = some r := h
  clear h
  replace H := Option.bind_eq_some_iff.mp H
  obtain ⟨t137, A20, H⟩ := H
  replace H : ((flailref17_Names.f).bind fun t138 => (if (t138.length : Int) = 0 then (none) else (if 0 ≤ (Int.tmod (wrap64 (a0)) (t138.length : Int)) then (if (Int.tmod (wrap64 (a0)) (t138.length : Int)) < (t138.length : Int) then (if t137 = true then ((kinds_Hides.f k (rdOf ByteArray.empty t138 (Int.tmod (wrap64 (a0)) (t138.length : Int)))).bind fun t142 => ((flailref17_Hides.f (rdOf ByteArray.empty t138 (Int.tmod (wrap64 (a0)) (t138.length : Int)))).bind fun t143 => (if (t142 == t143) = true then ((kinds_Keeps.f k (rdOf ByteArray.empty t138 (Int.tmod (wrap64 (a0)) (t138.length : Int)))).bind fun t144 => ((flailref17_Keeps.f (rdOf ByteArray.empty t138 (Int.tmod (wrap64 (a0)) (t138.length : Int)))).bind fun t145 => (if (t144 == t145) = true then ((kinds_Lines.f k (rdOf ByteArray.empty t138 (Int.tmod (wrap64 (a0)) (t138.length : Int)))).bind fun t146 => ((flailref17_Lines.f k (rdOf ByteArray.empty t138 (Int.tmod (wrap64 (a0)) (t138.length : Int)))).bind fun t147 => (if t146 = t147 then ((kinds_Void.f k (rdOf ByteArray.empty t138 (Int.tmod (wrap64 (a0)) (t138.length : Int)))).bind fun t148 => ((flailref17_Void.f (rdOf ByteArray.empty t138 (Int.tmod (wrap64 (a0)) (t138.length : Int)))).bind fun t149 => (some (t148 == t149)))) else (some false)))) else (some false)))) else (some false)))) else (some false)) else (none)) else (none)))) = some r := H
  have A2 := Aside0.mk A20
  clear A20
  replace H := Option.bind_eq_some_iff.mp H
  obtain ⟨t138, A30, H⟩ := H
  replace H : (if (t138.length : Int) = 0 then (none) else (if 0 ≤ (Int.tmod (wrap64 (a0)) (t138.length : Int)) then (if (Int.tmod (wrap64 (a0)) (t138.length : Int)) < (t138.length : Int) then (if t137 = true then ((kinds_Hides.f k (rdOf ByteArray.empty t138 (Int.tmod (wrap64 (a0)) (t138.length : Int)))).bind fun t142 => ((flailref17_Hides.f (rdOf ByteArray.empty t138 (Int.tmod (wrap64 (a0)) (t138.length : Int)))).bind fun t143 => (if (t142 == t143) = true then ((kinds_Keeps.f k (rdOf ByteArray.empty t138 (Int.tmod (wrap64 (a0)) (t138.length : Int)))).bind fun t144 => ((flailref17_Keeps.f (rdOf ByteArray.empty t138 (Int.tmod (wrap64 (a0)) (t138.length : Int)))).bind fun t145 => (if (t144 == t145) = true then ((kinds_Lines.f k (rdOf ByteArray.empty t138 (Int.tmod (wrap64 (a0)) (t138.length : Int)))).bind fun t146 => ((flailref17_Lines.f k (rdOf ByteArray.empty t138 (Int.tmod (wrap64 (a0)) (t138.length : Int)))).bind fun t147 => (if t146 = t147 then ((kinds_Void.f k (rdOf ByteArray.empty t138 (Int.tmod (wrap64 (a0)) (t138.length : Int)))).bind fun t148 => ((flailref17_Void.f (rdOf ByteArray.empty t138 (Int.tmod (wrap64 (a0)) (t138.length : Int)))).bind fun t149 => (some (t148 == t149)))) else (some false)))) else (some false)))) else (some false)))) else (some false)) else (none)) else (none))) = some r := H
  have A3 := Aside0.mk A30
  clear A30
  by_cases c4 : (t138.length : Int) = 0
  · rw [if_pos c4] at H
    exact absurd H (by simp)
  · rw [if_neg c4] at H
    have c4b0 : ((t138.length : Int) == 0) = false := beq_eq_false_iff_ne.mpr c4
    have c4b1 : ((t138.length : Int) != 0) = true := bne_iff_ne.mpr c4
    have c4b2 : ¬ (t138 = []) := fun h_ => c4 (by rw [h_]; rfl)
    obtain ⟨ji5, hji5⟩ : ∃ j_ : Int, (Int.tmod (wrap64 (a0)) (t138.length : Int)) = j_ := ⟨_, rfl⟩
    replace H : (if 0 ≤ (ji5) then (if (ji5) < (t138.length : Int) then (if t137 = true then ((kinds_Hides.f k (rdOf ByteArray.empty t138 (ji5))).bind fun t142 => ((flailref17_Hides.f (rdOf ByteArray.empty t138 (ji5))).bind fun t143 => (if (t142 == t143) = true then ((kinds_Keeps.f k (rdOf ByteArray.empty t138 (ji5))).bind fun t144 => ((flailref17_Keeps.f (rdOf ByteArray.empty t138 (ji5))).bind fun t145 => (if (t144 == t145) = true then ((kinds_Lines.f k (rdOf ByteArray.empty t138 (ji5))).bind fun t146 => ((flailref17_Lines.f k (rdOf ByteArray.empty t138 (ji5))).bind fun t147 => (if t146 = t147 then ((kinds_Void.f k (rdOf ByteArray.empty t138 (ji5))).bind fun t148 => ((flailref17_Void.f (rdOf ByteArray.empty t138 (ji5))).bind fun t149 => (some (t148 == t149)))) else (some false)))) else (some false)))) else (some false)))) else (some false)) else (none)) else (none)) = some r := by first | (rw [hji5] at H; exact H) | (simp only [hji5] at H ⊢; exact H)
    (try rw [hji5] at A2)
    (try rw [hji5] at A3)
    by_cases c6 : 0 ≤ (ji5)
    · rw [if_pos c6] at H
      have c6b0 : decide (0 ≤ (ji5)) = true := decide_eq_true c6
      clear c6
      by_cases c7 : (ji5) < (t138.length : Int)
      · rw [if_pos c7] at H
        have c7b0 : decide ((ji5) < (t138.length : Int)) = true := decide_eq_true c7
        clear c7
        by_cases c8 : t137 = true
        · subst c8
          have H1 : ((kinds_Hides.f k (rdOf ByteArray.empty t138 (ji5))).bind fun t142 => ((flailref17_Hides.f (rdOf ByteArray.empty t138 (ji5))).bind fun t143 => (if (t142 == t143) = true then ((kinds_Keeps.f k (rdOf ByteArray.empty t138 (ji5))).bind fun t144 => ((flailref17_Keeps.f (rdOf ByteArray.empty t138 (ji5))).bind fun t145 => (if (t144 == t145) = true then ((kinds_Lines.f k (rdOf ByteArray.empty t138 (ji5))).bind fun t146 => ((flailref17_Lines.f k (rdOf ByteArray.empty t138 (ji5))).bind fun t147 => (if t146 = t147 then ((kinds_Void.f k (rdOf ByteArray.empty t138 (ji5))).bind fun t148 => ((flailref17_Void.f (rdOf ByteArray.empty t138 (ji5))).bind fun t149 => (some (t148 == t149)))) else (some false)))) else (some false)))) else (some false)))) = some r := by rw [if_pos rfl] at H; exact H
          clear H
          have H := H1
          clear H1
          replace H := Option.bind_eq_some_iff.mp H
          obtain ⟨t142, A90, H⟩ := H
          replace H : ((flailref17_Hides.f (rdOf ByteArray.empty t138 (ji5))).bind fun t143 => (if (t142 == t143) = true then ((kinds_Keeps.f k (rdOf ByteArray.empty t138 (ji5))).bind fun t144 => ((flailref17_Keeps.f (rdOf ByteArray.empty t138 (ji5))).bind fun t145 => (if (t144 == t145) = true then ((kinds_Lines.f k (rdOf ByteArray.empty t138 (ji5))).bind fun t146 => ((flailref17_Lines.f k (rdOf ByteArray.empty t138 (ji5))).bind fun t147 => (if t146 = t147 then ((kinds_Void.f k (rdOf ByteArray.empty t138 (ji5))).bind fun t148 => ((flailref17_Void.f (rdOf ByteArray.empty t138 (ji5))).bind fun t149 => (some (t148 == t149)))) else (some false)))) else (some false)))) else (some false))) = some r := H
          have A9 := Aside0.mk A90
          clear A90
          replace H := Option.bind_eq_some_iff.mp H
          obtain ⟨t143, A100, H⟩ := H
          replace H : (if (t142 == t143) = true then ((kinds_Keeps.f k (rdOf ByteArray.empty t138 (ji5))).bind fun t144 => ((flailref17_Keeps.f (rdOf ByteArray.empty t138 (ji5))).bind fun t145 => (if (t144 == t145) = true then ((kinds_Lines.f k (rdOf ByteArray.empty t138 (ji5))).bind fun t146 => ((flailref17_Lines.f k (rdOf ByteArray.empty t138 (ji5))).bind fun t147 => (if t146 = t147 then ((kinds_Void.f k (rdOf ByteArray.empty t138 (ji5))).bind fun t148 => ((flailref17_Void.f (rdOf ByteArray.empty t138 (ji5))).bind fun t149 => (some (t148 == t149)))) else (some false)))) else (some false)))) else (some false)) = some r := H
          have A10 := Aside0.mk A100
          clear A100
          by_cases c11 : (t142 == t143) = true
          · rw [if_pos c11] at H
            have c11b0 : (t142 == t143) = true := c11
            (try (have c11b1 : decide (t142 = t143) = true := by simpa using c11))
            (try (have c11b2 : (t142 == t143) = true := by simpa using c11))
            clear c11
            replace H := Option.bind_eq_some_iff.mp H
            obtain ⟨t144, A120, H⟩ := H
            replace H : ((flailref17_Keeps.f (rdOf ByteArray.empty t138 (ji5))).bind fun t145 => (if (t144 == t145) = true then ((kinds_Lines.f k (rdOf ByteArray.empty t138 (ji5))).bind fun t146 => ((flailref17_Lines.f k (rdOf ByteArray.empty t138 (ji5))).bind fun t147 => (if t146 = t147 then ((kinds_Void.f k (rdOf ByteArray.empty t138 (ji5))).bind fun t148 => ((flailref17_Void.f (rdOf ByteArray.empty t138 (ji5))).bind fun t149 => (some (t148 == t149)))) else (some false)))) else (some false))) = some r := H
            have A12 := Aside0.mk A120
            clear A120
            replace H := Option.bind_eq_some_iff.mp H
            obtain ⟨t145, A130, H⟩ := H
            replace H : (if (t144 == t145) = true then ((kinds_Lines.f k (rdOf ByteArray.empty t138 (ji5))).bind fun t146 => ((flailref17_Lines.f k (rdOf ByteArray.empty t138 (ji5))).bind fun t147 => (if t146 = t147 then ((kinds_Void.f k (rdOf ByteArray.empty t138 (ji5))).bind fun t148 => ((flailref17_Void.f (rdOf ByteArray.empty t138 (ji5))).bind fun t149 => (some (t148 == t149)))) else (some false)))) else (some false)) = some r := H
            have A13 := Aside0.mk A130
            clear A130
            by_cases c14 : (t144 == t145) = true
            · rw [if_pos c14] at H
              have c14b0 : (t144 == t145) = true := c14
              (try (have c14b1 : decide (t144 = t145) = true := by simpa using c14))
              (try (have c14b2 : (t144 == t145) = true := by simpa using c14))
              clear c14
              replace H := Option.bind_eq_some_iff.mp H
              obtain ⟨t146, A150, H⟩ := H
              replace H : ((flailref17_Lines.f k (rdOf ByteArray.empty t138 (ji5))).bind fun t147 => (if t146 = t147 then ((kinds_Void.f k (rdOf ByteArray.empty t138 (ji5))).bind fun t148 => ((flailref17_Void.f (rdOf ByteArray.empty t138 (ji5))).bind fun t149 => (some (t148 == t149)))) else (some false))) = some r := H
              have A15 := Aside0.mk A150
              clear A150
              replace H := Option.bind_eq_some_iff.mp H
              obtain ⟨t147, A160, H⟩ := H
              replace H : (if t146 = t147 then ((kinds_Void.f k (rdOf ByteArray.empty t138 (ji5))).bind fun t148 => ((flailref17_Void.f (rdOf ByteArray.empty t138 (ji5))).bind fun t149 => (some (t148 == t149)))) else (some false)) = some r := H
              have A16 := Aside0.mk A160
              clear A160
              by_cases c17 : t146 = t147
              · rw [if_pos c17] at H
                have c17b0 : (t146 == t147) = true := beq_iff_eq.mpr c17
                have c17b1 : (t146 != t147) = false := bne_eq_false_iff_eq.mpr c17
                clear c17
                replace H := Option.bind_eq_some_iff.mp H
                obtain ⟨t148, A180, H⟩ := H
                replace H : ((flailref17_Void.f (rdOf ByteArray.empty t138 (ji5))).bind fun t149 => (some (t148 == t149))) = some r := H
                have A18 := Aside0.mk A180
                clear A180
                replace H := Option.bind_eq_some_iff.mp H
                obtain ⟨t149, A190, H⟩ := H
                replace H : (some (t148 == t149)) = some r := H
                have A19 := Aside0.mk A190
                clear A190
                obtain rfl := Option.some.inj H
                go_enter Try.func4, Try.ntmps4
                go_wp2_with (first | ((with_reducible refine gate_callee (f := 8) rfl ?_); refine goesL_ (some 6) rfl rfl Try.func8 (by kernel_rfl) rfl #[] rfl (by (try simp only [List.map_toArray, List.map_cons, List.map_nil]); first | done | rfl | (simp only [List.length_drop, List.length_take]; rfl)) ?_; (with_reducible refine (flaillaw17_awake.calls k  true _ A2.out).mono ?_); rintro e w20 ⟨rfl, hb⟩; refine ⟨_, rfl, ?_⟩; have n0_ := Aside0.mk (below_step (by repeat (first | (with_reducible first | exact HB.out | apply below_alloc | apply pw_below_drewN | apply below_drew1) | exact HB.out)) hb); clear HB; have HB := n0_; clear n0_; (try clear hb); (try clear hb2); (try clear hk); (try clear hi)) | ((with_reducible refine gate_callee (f := 17) rfl ?_); refine goesL_ (some 7) rfl rfl Try.func17 (by kernel_rfl) rfl #[] rfl (by (try simp only [List.map_toArray, List.map_cons, List.map_nil]); first | done | rfl | (simp only [List.length_drop, List.length_take]; rfl)) ?_; (with_reducible refine (flailref17_Names.calls  t138 _ A3.out).mono ?_); rintro e w21 ⟨v139, rfl, ho0, hb⟩; refine ⟨_, rfl, ?_⟩; have n0_ := Aside0.mk (Kd.R_lower ho0 (below_size (by repeat (first | (with_reducible first | exact HB.out | apply below_alloc | apply pw_below_drewN | apply below_drew1) | exact HB.out)))); have n1_ := Aside0.mk (below_step (by repeat (first | (with_reducible first | exact HB.out | apply below_alloc | apply pw_below_drewN | apply below_drew1) | exact HB.out)) hb); clear HB; have HO140 := n0_; have HB := n1_; clear n0_ n1_; (try clear hb); (try clear hb2); (try clear hk); (try clear hi); (try clear ho0); obtain ⟨Ao22, co22, eo22⟩ := Kd.R_slice HO140.out; subst eo22; have p141 : 0 ≤ ((ji5) : Int) := of_decide_eq_true (by first | (with_reducible assumption) | assumption); have q141 : (ji5) < (t138.length : Int) := of_decide_eq_true (by first | (with_reducible assumption) | assumption); obtain ⟨ad141, e141, hx141_0⟩ := Kd.at_string (Kd.R_reads' HO140.out).2.2 (ji5) p141 q141; cases e141; replace p141 := eq_true p141; replace q141 := eq_true q141) | (go_at_call 9; (with_reducible refine (kinds_Hides.calls k (rdOf ByteArray.empty t138 (ji5)) t142 _ A9.out).mono ?_); rintro e w23 ⟨rfl, hb⟩; have n0_ := Aside0.mk (Kd.R_below (by (with_reducible repeat (first | apply Kd.R_alloc | apply Kd.R_drewN | apply Kd.R_drew)); exact HO140.out) hb); have n1_ := Aside0.mk (below_step (by repeat (first | (with_reducible first | exact HB.out | apply below_alloc | apply pw_below_drewN | apply below_drew1) | exact HB.out)) hb); clear HO140; clear HB; have HO140 := n0_; have HB := n1_; clear n0_ n1_; (try clear hb); (try clear hb2); (try clear hk); (try clear hi)) | (go_at_call 10; (with_reducible refine (flailref17_Hides.calls (rdOf ByteArray.empty t138 (ji5)) t143 _ A10.out).mono ?_); rintro e w' ⟨rfl, ⟨nd, rfl⟩⟩) | (go_at_call 11; (with_reducible refine (kinds_Keeps.calls k (rdOf ByteArray.empty t138 (ji5)) t144 _ A12.out).mono ?_); rintro e w24 ⟨rfl, hb⟩; have n0_ := Aside0.mk (Kd.R_below (by (with_reducible repeat (first | apply Kd.R_alloc | apply Kd.R_drewN | apply Kd.R_drew)); exact HO140.out) hb); have n1_ := Aside0.mk (below_step (by repeat (first | (with_reducible first | exact HB.out | apply below_alloc | apply pw_below_drewN | apply below_drew1) | exact HB.out)) hb); clear HO140; clear HB; have HO140 := n0_; have HB := n1_; clear n0_ n1_; (try clear hb); (try clear hb2); (try clear hk); (try clear hi)) | (go_at_call 12; (with_reducible refine (flailref17_Keeps.calls (rdOf ByteArray.empty t138 (ji5)) t145 _ A13.out).mono ?_); rintro e w' ⟨rfl, ⟨nd, rfl⟩⟩) | (go_at_call 13; (with_reducible refine (kinds_Lines.calls k (rdOf ByteArray.empty t138 (ji5)) t146 _ A15.out).mono ?_); rintro e w25 ⟨rfl, hb⟩; have n0_ := Aside0.mk (Kd.R_below (by (with_reducible repeat (first | apply Kd.R_alloc | apply Kd.R_drewN | apply Kd.R_drew)); exact HO140.out) hb); have n1_ := Aside0.mk (below_step (by repeat (first | (with_reducible first | exact HB.out | apply below_alloc | apply pw_below_drewN | apply below_drew1) | exact HB.out)) hb); clear HO140; clear HB; have HO140 := n0_; have HB := n1_; clear n0_ n1_; (try clear hb); (try clear hb2); (try clear hk); (try clear hi)) | (go_at_call 14; (with_reducible refine (flailref17_Lines.calls k (rdOf ByteArray.empty t138 (ji5)) t147 _ A16.out).mono ?_); rintro e w' ⟨rfl, ⟨nd, rfl⟩⟩) | (go_at_call 15; (with_reducible refine (kinds_Void.calls k (rdOf ByteArray.empty t138 (ji5)) t148 _ A18.out).mono ?_); rintro e w26 ⟨rfl, hb⟩; have n0_ := Aside0.mk (Kd.R_below (by (with_reducible repeat (first | apply Kd.R_alloc | apply Kd.R_drewN | apply Kd.R_drew)); exact HO140.out) hb); have n1_ := Aside0.mk (below_step (by repeat (first | (with_reducible first | exact HB.out | apply below_alloc | apply pw_below_drewN | apply below_drew1) | exact HB.out)) hb); clear HO140; clear HB; have HO140 := n0_; have HB := n1_; clear n0_ n1_; (try clear hb); (try clear hb2); (try clear hk); (try clear hi)) | (go_at_call 16; (with_reducible refine (flailref17_Void.calls (rdOf ByteArray.empty t138 (ji5)) t149 _ A19.out).mono ?_); rintro e w' ⟨rfl, ⟨nd, rfl⟩⟩))
                go_ret
                exact ⟨by first | rfl | (simp [errW_none, errW_some] <;> rfl) | (simp only [← hji5]; first | rfl | (simp [errW_none, errW_some] <;> rfl)) | (simp [*, errW_none, errW_some] <;> rfl), by repeat (first | (with_reducible first | exact HB.out | apply below_alloc | apply pw_below_drewN | apply below_drew1) | exact HB.out)⟩
              · rw [if_neg c17] at H
                have c17b0 : (t146 == t147) = false := beq_eq_false_iff_ne.mpr c17
                have c17b1 : (t146 != t147) = true := bne_iff_ne.mpr c17
                obtain rfl := Option.some.inj H
                go_enter Try.func4, Try.ntmps4
                go_wp2_with (first | ((with_reducible refine gate_callee (f := 8) rfl ?_); refine goesL_ (some 6) rfl rfl Try.func8 (by kernel_rfl) rfl #[] rfl (by (try simp only [List.map_toArray, List.map_cons, List.map_nil]); first | done | rfl | (simp only [List.length_drop, List.length_take]; rfl)) ?_; (with_reducible refine (flaillaw17_awake.calls k  true _ A2.out).mono ?_); rintro e w27 ⟨rfl, hb⟩; refine ⟨_, rfl, ?_⟩; have n0_ := Aside0.mk (below_step (by repeat (first | (with_reducible first | exact HB.out | apply below_alloc | apply pw_below_drewN | apply below_drew1) | exact HB.out)) hb); clear HB; have HB := n0_; clear n0_; (try clear hb); (try clear hb2); (try clear hk); (try clear hi)) | ((with_reducible refine gate_callee (f := 17) rfl ?_); refine goesL_ (some 7) rfl rfl Try.func17 (by kernel_rfl) rfl #[] rfl (by (try simp only [List.map_toArray, List.map_cons, List.map_nil]); first | done | rfl | (simp only [List.length_drop, List.length_take]; rfl)) ?_; (with_reducible refine (flailref17_Names.calls  t138 _ A3.out).mono ?_); rintro e w28 ⟨v139, rfl, ho0, hb⟩; refine ⟨_, rfl, ?_⟩; have n0_ := Aside0.mk (Kd.R_lower ho0 (below_size (by repeat (first | (with_reducible first | exact HB.out | apply below_alloc | apply pw_below_drewN | apply below_drew1) | exact HB.out)))); have n1_ := Aside0.mk (below_step (by repeat (first | (with_reducible first | exact HB.out | apply below_alloc | apply pw_below_drewN | apply below_drew1) | exact HB.out)) hb); clear HB; have HO140 := n0_; have HB := n1_; clear n0_ n1_; (try clear hb); (try clear hb2); (try clear hk); (try clear hi); (try clear ho0); obtain ⟨Ao29, co29, eo29⟩ := Kd.R_slice HO140.out; subst eo29; have p141 : 0 ≤ ((ji5) : Int) := of_decide_eq_true (by first | (with_reducible assumption) | assumption); have q141 : (ji5) < (t138.length : Int) := of_decide_eq_true (by first | (with_reducible assumption) | assumption); obtain ⟨ad141, e141, hx141_0⟩ := Kd.at_string (Kd.R_reads' HO140.out).2.2 (ji5) p141 q141; cases e141; replace p141 := eq_true p141; replace q141 := eq_true q141) | (go_at_call 9; (with_reducible refine (kinds_Hides.calls k (rdOf ByteArray.empty t138 (ji5)) t142 _ A9.out).mono ?_); rintro e w30 ⟨rfl, hb⟩; have n0_ := Aside0.mk (Kd.R_below (by (with_reducible repeat (first | apply Kd.R_alloc | apply Kd.R_drewN | apply Kd.R_drew)); exact HO140.out) hb); have n1_ := Aside0.mk (below_step (by repeat (first | (with_reducible first | exact HB.out | apply below_alloc | apply pw_below_drewN | apply below_drew1) | exact HB.out)) hb); clear HO140; clear HB; have HO140 := n0_; have HB := n1_; clear n0_ n1_; (try clear hb); (try clear hb2); (try clear hk); (try clear hi)) | (go_at_call 10; (with_reducible refine (flailref17_Hides.calls (rdOf ByteArray.empty t138 (ji5)) t143 _ A10.out).mono ?_); rintro e w' ⟨rfl, ⟨nd, rfl⟩⟩) | (go_at_call 11; (with_reducible refine (kinds_Keeps.calls k (rdOf ByteArray.empty t138 (ji5)) t144 _ A12.out).mono ?_); rintro e w31 ⟨rfl, hb⟩; have n0_ := Aside0.mk (Kd.R_below (by (with_reducible repeat (first | apply Kd.R_alloc | apply Kd.R_drewN | apply Kd.R_drew)); exact HO140.out) hb); have n1_ := Aside0.mk (below_step (by repeat (first | (with_reducible first | exact HB.out | apply below_alloc | apply pw_below_drewN | apply below_drew1) | exact HB.out)) hb); clear HO140; clear HB; have HO140 := n0_; have HB := n1_; clear n0_ n1_; (try clear hb); (try clear hb2); (try clear hk); (try clear hi)) | (go_at_call 12; (with_reducible refine (flailref17_Keeps.calls (rdOf ByteArray.empty t138 (ji5)) t145 _ A13.out).mono ?_); rintro e w' ⟨rfl, ⟨nd, rfl⟩⟩) | (go_at_call 13; (with_reducible refine (kinds_Lines.calls k (rdOf ByteArray.empty t138 (ji5)) t146 _ A15.out).mono ?_); rintro e w32 ⟨rfl, hb⟩; have n0_ := Aside0.mk (Kd.R_below (by (with_reducible repeat (first | apply Kd.R_alloc | apply Kd.R_drewN | apply Kd.R_drew)); exact HO140.out) hb); have n1_ := Aside0.mk (below_step (by repeat (first | (with_reducible first | exact HB.out | apply below_alloc | apply pw_below_drewN | apply below_drew1) | exact HB.out)) hb); clear HO140; clear HB; have HO140 := n0_; have HB := n1_; clear n0_ n1_; (try clear hb); (try clear hb2); (try clear hk); (try clear hi)) | (go_at_call 14; (with_reducible refine (flailref17_Lines.calls k (rdOf ByteArray.empty t138 (ji5)) t147 _ A16.out).mono ?_); rintro e w' ⟨rfl, ⟨nd, rfl⟩⟩))
                go_ret
                exact ⟨by first | rfl | (simp [errW_none, errW_some] <;> rfl) | (simp only [← hji5]; first | rfl | (simp [errW_none, errW_some] <;> rfl)) | (simp [*, errW_none, errW_some] <;> rfl), by repeat (first | (with_reducible first | exact HB.out | apply below_alloc | apply pw_below_drewN | apply below_drew1) | exact HB.out)⟩
            · rw [if_neg c14] at H
              have c14b0 : (t144 == t145) = false := by simpa using c14
              (try (have c14b1 : decide (t144 = t145) = false := by simpa using c14))
              (try (have c14b2 : (t144 == t145) = false := by simpa using c14))
              (try (have c14b3 : ¬ (t144 = t145) := by simpa using c14))
              clear c14
              obtain rfl := Option.some.inj H
              go_enter Try.func4, Try.ntmps4
              go_wp2_with (first | ((with_reducible refine gate_callee (f := 8) rfl ?_); refine goesL_ (some 6) rfl rfl Try.func8 (by kernel_rfl) rfl #[] rfl (by (try simp only [List.map_toArray, List.map_cons, List.map_nil]); first | done | rfl | (simp only [List.length_drop, List.length_take]; rfl)) ?_; (with_reducible refine (flaillaw17_awake.calls k  true _ A2.out).mono ?_); rintro e w33 ⟨rfl, hb⟩; refine ⟨_, rfl, ?_⟩; have n0_ := Aside0.mk (below_step (by repeat (first | (with_reducible first | exact HB.out | apply below_alloc | apply pw_below_drewN | apply below_drew1) | exact HB.out)) hb); clear HB; have HB := n0_; clear n0_; (try clear hb); (try clear hb2); (try clear hk); (try clear hi)) | ((with_reducible refine gate_callee (f := 17) rfl ?_); refine goesL_ (some 7) rfl rfl Try.func17 (by kernel_rfl) rfl #[] rfl (by (try simp only [List.map_toArray, List.map_cons, List.map_nil]); first | done | rfl | (simp only [List.length_drop, List.length_take]; rfl)) ?_; (with_reducible refine (flailref17_Names.calls  t138 _ A3.out).mono ?_); rintro e w34 ⟨v139, rfl, ho0, hb⟩; refine ⟨_, rfl, ?_⟩; have n0_ := Aside0.mk (Kd.R_lower ho0 (below_size (by repeat (first | (with_reducible first | exact HB.out | apply below_alloc | apply pw_below_drewN | apply below_drew1) | exact HB.out)))); have n1_ := Aside0.mk (below_step (by repeat (first | (with_reducible first | exact HB.out | apply below_alloc | apply pw_below_drewN | apply below_drew1) | exact HB.out)) hb); clear HB; have HO140 := n0_; have HB := n1_; clear n0_ n1_; (try clear hb); (try clear hb2); (try clear hk); (try clear hi); (try clear ho0); obtain ⟨Ao35, co35, eo35⟩ := Kd.R_slice HO140.out; subst eo35; have p141 : 0 ≤ ((ji5) : Int) := of_decide_eq_true (by first | (with_reducible assumption) | assumption); have q141 : (ji5) < (t138.length : Int) := of_decide_eq_true (by first | (with_reducible assumption) | assumption); obtain ⟨ad141, e141, hx141_0⟩ := Kd.at_string (Kd.R_reads' HO140.out).2.2 (ji5) p141 q141; cases e141; replace p141 := eq_true p141; replace q141 := eq_true q141) | (go_at_call 9; (with_reducible refine (kinds_Hides.calls k (rdOf ByteArray.empty t138 (ji5)) t142 _ A9.out).mono ?_); rintro e w36 ⟨rfl, hb⟩; have n0_ := Aside0.mk (Kd.R_below (by (with_reducible repeat (first | apply Kd.R_alloc | apply Kd.R_drewN | apply Kd.R_drew)); exact HO140.out) hb); have n1_ := Aside0.mk (below_step (by repeat (first | (with_reducible first | exact HB.out | apply below_alloc | apply pw_below_drewN | apply below_drew1) | exact HB.out)) hb); clear HO140; clear HB; have HO140 := n0_; have HB := n1_; clear n0_ n1_; (try clear hb); (try clear hb2); (try clear hk); (try clear hi)) | (go_at_call 10; (with_reducible refine (flailref17_Hides.calls (rdOf ByteArray.empty t138 (ji5)) t143 _ A10.out).mono ?_); rintro e w' ⟨rfl, ⟨nd, rfl⟩⟩) | (go_at_call 11; (with_reducible refine (kinds_Keeps.calls k (rdOf ByteArray.empty t138 (ji5)) t144 _ A12.out).mono ?_); rintro e w37 ⟨rfl, hb⟩; have n0_ := Aside0.mk (Kd.R_below (by (with_reducible repeat (first | apply Kd.R_alloc | apply Kd.R_drewN | apply Kd.R_drew)); exact HO140.out) hb); have n1_ := Aside0.mk (below_step (by repeat (first | (with_reducible first | exact HB.out | apply below_alloc | apply pw_below_drewN | apply below_drew1) | exact HB.out)) hb); clear HO140; clear HB; have HO140 := n0_; have HB := n1_; clear n0_ n1_; (try clear hb); (try clear hb2); (try clear hk); (try clear hi)) | (go_at_call 12; (with_reducible refine (flailref17_Keeps.calls (rdOf ByteArray.empty t138 (ji5)) t145 _ A13.out).mono ?_); rintro e w' ⟨rfl, ⟨nd, rfl⟩⟩))
              go_ret
              exact ⟨by first | rfl | (simp [errW_none, errW_some] <;> rfl) | (simp only [← hji5]; first | rfl | (simp [errW_none, errW_some] <;> rfl)) | (simp [*, errW_none, errW_some] <;> rfl), by repeat (first | (with_reducible first | exact HB.out | apply below_alloc | apply pw_below_drewN | apply below_drew1) | exact HB.out)⟩
          · rw [if_neg c11] at H
            have c11b0 : (t142 == t143) = false := by simpa using c11
            (try (have c11b1 : decide (t142 = t143) = false := by simpa using c11))
            (try (have c11b2 : (t142 == t143) = false := by simpa using c11))
            (try (have c11b3 : ¬ (t142 = t143) := by simpa using c11))
            clear c11
            obtain rfl := Option.some.inj H
            go_enter Try.func4, Try.ntmps4
            go_wp2_with (first | ((with_reducible refine gate_callee (f := 8) rfl ?_); refine goesL_ (some 6) rfl rfl Try.func8 (by kernel_rfl) rfl #[] rfl (by (try simp only [List.map_toArray, List.map_cons, List.map_nil]); first | done | rfl | (simp only [List.length_drop, List.length_take]; rfl)) ?_; (with_reducible refine (flaillaw17_awake.calls k  true _ A2.out).mono ?_); rintro e w38 ⟨rfl, hb⟩; refine ⟨_, rfl, ?_⟩; have n0_ := Aside0.mk (below_step (by repeat (first | (with_reducible first | exact HB.out | apply below_alloc | apply pw_below_drewN | apply below_drew1) | exact HB.out)) hb); clear HB; have HB := n0_; clear n0_; (try clear hb); (try clear hb2); (try clear hk); (try clear hi)) | ((with_reducible refine gate_callee (f := 17) rfl ?_); refine goesL_ (some 7) rfl rfl Try.func17 (by kernel_rfl) rfl #[] rfl (by (try simp only [List.map_toArray, List.map_cons, List.map_nil]); first | done | rfl | (simp only [List.length_drop, List.length_take]; rfl)) ?_; (with_reducible refine (flailref17_Names.calls  t138 _ A3.out).mono ?_); rintro e w39 ⟨v139, rfl, ho0, hb⟩; refine ⟨_, rfl, ?_⟩; have n0_ := Aside0.mk (Kd.R_lower ho0 (below_size (by repeat (first | (with_reducible first | exact HB.out | apply below_alloc | apply pw_below_drewN | apply below_drew1) | exact HB.out)))); have n1_ := Aside0.mk (below_step (by repeat (first | (with_reducible first | exact HB.out | apply below_alloc | apply pw_below_drewN | apply below_drew1) | exact HB.out)) hb); clear HB; have HO140 := n0_; have HB := n1_; clear n0_ n1_; (try clear hb); (try clear hb2); (try clear hk); (try clear hi); (try clear ho0); obtain ⟨Ao40, co40, eo40⟩ := Kd.R_slice HO140.out; subst eo40; have p141 : 0 ≤ ((ji5) : Int) := of_decide_eq_true (by first | (with_reducible assumption) | assumption); have q141 : (ji5) < (t138.length : Int) := of_decide_eq_true (by first | (with_reducible assumption) | assumption); obtain ⟨ad141, e141, hx141_0⟩ := Kd.at_string (Kd.R_reads' HO140.out).2.2 (ji5) p141 q141; cases e141; replace p141 := eq_true p141; replace q141 := eq_true q141) | (go_at_call 9; (with_reducible refine (kinds_Hides.calls k (rdOf ByteArray.empty t138 (ji5)) t142 _ A9.out).mono ?_); rintro e w41 ⟨rfl, hb⟩; have n0_ := Aside0.mk (Kd.R_below (by (with_reducible repeat (first | apply Kd.R_alloc | apply Kd.R_drewN | apply Kd.R_drew)); exact HO140.out) hb); have n1_ := Aside0.mk (below_step (by repeat (first | (with_reducible first | exact HB.out | apply below_alloc | apply pw_below_drewN | apply below_drew1) | exact HB.out)) hb); clear HO140; clear HB; have HO140 := n0_; have HB := n1_; clear n0_ n1_; (try clear hb); (try clear hb2); (try clear hk); (try clear hi)) | (go_at_call 10; (with_reducible refine (flailref17_Hides.calls (rdOf ByteArray.empty t138 (ji5)) t143 _ A10.out).mono ?_); rintro e w' ⟨rfl, ⟨nd, rfl⟩⟩))
            go_ret
            exact ⟨by first | rfl | (simp [errW_none, errW_some] <;> rfl) | (simp only [← hji5]; first | rfl | (simp [errW_none, errW_some] <;> rfl)) | (simp [*, errW_none, errW_some] <;> rfl), by repeat (first | (with_reducible first | exact HB.out | apply below_alloc | apply pw_below_drewN | apply below_drew1) | exact HB.out)⟩
        · replace c8 := Bool.eq_false_iff.mpr c8
          subst c8
          have H1 : (some false) = some r := by rw [if_neg (show ¬ (false = true) by decide)] at H; exact H
          clear H
          have H := H1
          clear H1
          obtain rfl := Option.some.inj H
          go_enter Try.func4, Try.ntmps4
          go_wp2_with (first | ((with_reducible refine gate_callee (f := 8) rfl ?_); refine goesL_ (some 6) rfl rfl Try.func8 (by kernel_rfl) rfl #[] rfl (by (try simp only [List.map_toArray, List.map_cons, List.map_nil]); first | done | rfl | (simp only [List.length_drop, List.length_take]; rfl)) ?_; (with_reducible refine (flaillaw17_awake.calls k  false _ A2.out).mono ?_); rintro e w42 ⟨rfl, hb⟩; refine ⟨_, rfl, ?_⟩; have n0_ := Aside0.mk (below_step (by repeat (first | (with_reducible first | exact HB.out | apply below_alloc | apply pw_below_drewN | apply below_drew1) | exact HB.out)) hb); clear HB; have HB := n0_; clear n0_; (try clear hb); (try clear hb2); (try clear hk); (try clear hi)) | ((with_reducible refine gate_callee (f := 17) rfl ?_); refine goesL_ (some 7) rfl rfl Try.func17 (by kernel_rfl) rfl #[] rfl (by (try simp only [List.map_toArray, List.map_cons, List.map_nil]); first | done | rfl | (simp only [List.length_drop, List.length_take]; rfl)) ?_; (with_reducible refine (flailref17_Names.calls  t138 _ A3.out).mono ?_); rintro e w43 ⟨v139, rfl, ho0, hb⟩; refine ⟨_, rfl, ?_⟩; have n0_ := Aside0.mk (Kd.R_lower ho0 (below_size (by repeat (first | (with_reducible first | exact HB.out | apply below_alloc | apply pw_below_drewN | apply below_drew1) | exact HB.out)))); have n1_ := Aside0.mk (below_step (by repeat (first | (with_reducible first | exact HB.out | apply below_alloc | apply pw_below_drewN | apply below_drew1) | exact HB.out)) hb); clear HB; have HO140 := n0_; have HB := n1_; clear n0_ n1_; (try clear hb); (try clear hb2); (try clear hk); (try clear hi); (try clear ho0); obtain ⟨Ao44, co44, eo44⟩ := Kd.R_slice HO140.out; subst eo44; have p141 : 0 ≤ ((ji5) : Int) := of_decide_eq_true (by first | (with_reducible assumption) | assumption); have q141 : (ji5) < (t138.length : Int) := of_decide_eq_true (by first | (with_reducible assumption) | assumption); obtain ⟨ad141, e141, hx141_0⟩ := Kd.at_string (Kd.R_reads' HO140.out).2.2 (ji5) p141 q141; cases e141; replace p141 := eq_true p141; replace q141 := eq_true q141))
          go_ret
          exact ⟨by first | rfl | (simp [errW_none, errW_some] <;> rfl) | (simp only [← hji5]; first | rfl | (simp [errW_none, errW_some] <;> rfl)) | (simp [*, errW_none, errW_some] <;> rfl), by repeat (first | (with_reducible first | exact HB.out | apply below_alloc | apply pw_below_drewN | apply below_drew1) | exact HB.out)⟩
      · rw [if_neg c7] at H
        exact absurd H (by simp)
    · rw [if_neg c6] at H
      exact absurd H (by simp)

/-- THE ONE PURE STATEMENT of flaillaw17_KindsEach: yours. -/
def flaillaw17_KindsEach.Pure : Prop := ∀ (a0 : Int), (Lit.int .u16 a0).wf = true → ∃ k, flaillaw17_KindsEach.f k a0 = some true
theorem flaillaw17_KindsEach.walk (P : flaillaw17_KindsEach.Pure) (a0 : Int) (w : World) (w0 : (Lit.int .u16 a0).wf = true) :
    Calls Try.prog 4 #[.int .u16 a0] w fun e w' => e = .returned (.bool true) ∧ Below w.heap.size w w' := by
  obtain ⟨k, h⟩ := P a0 w0
  refine (flaillaw17_KindsEach.calls k a0 true w h).mono ?_
  rintro e w' ⟨rfl, hd⟩
  exact ⟨rfl, hd⟩

end Go.Proofs.Ytccdjphflnghlaa.PKindsEach
