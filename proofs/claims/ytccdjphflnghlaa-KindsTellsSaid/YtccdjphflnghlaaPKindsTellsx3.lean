-- PRINTED BY print.sh 35421559b90ae4d0a3588c463048766b98c2df88dd9212a6774a882060cdf62d: not written by this session
import Derived.Test.YtccdjphflnghlaaPKindsTellsx0
import Derived.Test.YtccdjphflnghlaaPKindsTellsx1
import Derived.Test.YtccdjphflnghlaaPKindsTellsx2
namespace Go.Proofs.Ytccdjphflnghlaa.PKindsTells
open Go.RowKit Go.Proofs.YtccdjphflnghlaaW.PrintWords Go.Proofs.YtccdjphflnghlaaW.PrintLast Go.Proofs.YtccdjphflnghlaaW.PrintMore
attribute [local go_sem] max2_int min2_int max_two min_two max_three min_three max_four min_four   -- for this text's walks alone
set_option linter.unusedVariables false
set_option linter.unusedSimpArgs false

/-! ### flaillaw17_KindsTells: function 3 -/
def flaillaw17_KindsTells.f (k : Nat) (a0 : ByteArray) : Option (Bool) := (flaillaw17_awake.f k).bind fun t134 => (if (a0.size : Int) > 60 then (some t134) else (if t134 = true then ((kinds_Hides.f k a0).bind fun t135 => ((flailref17_Hides.f a0).bind fun t136 => (if (t135 == t136) = true then ((kinds_Keeps.f k a0).bind fun t137 => ((flailref17_Keeps.f a0).bind fun t138 => (if (t137 == t138) = true then ((kinds_Lines.f k a0).bind fun t139 => ((flailref17_Lines.f k a0).bind fun t140 => (if t139 = t140 then ((kinds_Void.f k a0).bind fun t141 => ((flailref17_Void.f a0).bind fun t142 => (some (t141 == t142)))) else (some false)))) else (some false)))) else (some false)))) else (some false)))
theorem flaillaw17_KindsTells.mono : ∀ a0 k, LeO (flaillaw17_KindsTells.f k a0) (flaillaw17_KindsTells.f (k + 1) a0) := by
  intro a0 k
  unfold flaillaw17_KindsTells.f
  repeat' first
      | (with_reducible exact flaillaw17_awake.mono _)
      | (with_reducible exact flailref17_Lines.mono _ _)
      | (with_reducible exact kinds_Hides.mono _ _)
      | (with_reducible exact kinds_Keeps.mono _ _)
      | (with_reducible exact kinds_Lines.mono _ _)
      | (with_reducible exact kinds_Void.mono _ _)
      | (with_reducible exact LeO.refl _)
      | (with_reducible exact LeO.none _)
      | (with_reducible refine LeO.ite ?_ ?_)
      | (with_reducible refine LeO.bind ?_ (fun _ => ?_))
      | exact flaillaw17_awake.mono _
      | exact flailref17_Lines.mono _ _
      | exact kinds_Hides.mono _ _
      | exact kinds_Keeps.mono _ _
      | exact kinds_Lines.mono _ _
      | exact kinds_Void.mono _ _
      | exact LeO.none _
      | refine LeO.ite ?_ ?_
      | refine LeO.bind ?_ (fun _ => ?_)
set_option maxHeartbeats 8000000 in
set_option maxRecDepth 100000 in
theorem flaillaw17_KindsTells.calls (k : Nat) (a0 : ByteArray) (r : Bool) (w : World) (h : flaillaw17_KindsTells.f k a0 = some r) :
    Calls Try.prog 3 #[.string a0] w fun e w' => e = .returned (.bool r) ∧ Below w.heap.size w w' := by
  have HB := Aside0.mk (Below.refl w.heap.size w)
  have H : ((flaillaw17_awake.f k).bind fun t134 => (if (a0.size : Int) > 60 then (some t134) else (if t134 = true then ((kinds_Hides.f k a0).bind fun t135 => ((flailref17_Hides.f a0).bind fun t136 => (if (t135 == t136) = true then ((kinds_Keeps.f k a0).bind fun t137 => ((flailref17_Keeps.f a0).bind fun t138 => (if (t137 == t138) = true then ((kinds_Lines.f k a0).bind fun t139 => ((flailref17_Lines.f k a0).bind fun t140 => (if t139 = t140 then ((kinds_Void.f k a0).bind fun t141 => ((flailref17_Void.f a0).bind fun t142 => (some (t141 == t142)))) else (some false)))) else (some false)))) else (some false)))) else (some false)))) = some r := h
  clear h
  replace H := Option.bind_eq_some_iff.mp H
  obtain ⟨t134, A20, H⟩ := H
  replace H : (if (a0.size : Int) > 60 then (some t134) else (if t134 = true then ((kinds_Hides.f k a0).bind fun t135 => ((flailref17_Hides.f a0).bind fun t136 => (if (t135 == t136) = true then ((kinds_Keeps.f k a0).bind fun t137 => ((flailref17_Keeps.f a0).bind fun t138 => (if (t137 == t138) = true then ((kinds_Lines.f k a0).bind fun t139 => ((flailref17_Lines.f k a0).bind fun t140 => (if t139 = t140 then ((kinds_Void.f k a0).bind fun t141 => ((flailref17_Void.f a0).bind fun t142 => (some (t141 == t142)))) else (some false)))) else (some false)))) else (some false)))) else (some false))) = some r := H
  have A2 := Aside0.mk A20
  clear A20
  by_cases c3 : (a0.size : Int) > 60
  · rw [if_pos c3] at H
    have c3b0 : decide (60 < (a0.size : Int)) = true := decide_eq_true c3
    have c3b1 : decide (60 < a0.size) = true := decide_eq_true (by omega)
    clear c3
    obtain rfl := Option.some.inj H
    go_enter Try.func3, Try.ntmps3
    go_wp2_with (first | ((with_reducible refine gate_callee (f := 8) rfl ?_); refine goesL_ (some 4) rfl rfl Try.func8 (by kernel_rfl) rfl #[] rfl (by (try simp only [List.map_toArray, List.map_cons, List.map_nil]); first | done | rfl | (simp only [List.length_drop, List.length_take]; rfl)) ?_; (with_reducible refine (flaillaw17_awake.calls k  t134 _ A2.out).mono ?_); rintro e w4 ⟨rfl, hb⟩; refine ⟨_, rfl, ?_⟩; have n0_ := Aside0.mk (below_step (by repeat (first | (with_reducible first | exact HB.out | apply below_alloc | apply pw_below_drewN | apply below_drew1) | exact HB.out)) hb); clear HB; have HB := n0_; clear n0_; (try clear hb); (try clear hb2); (try clear hk); (try clear hi)))
    go_ret
    exact ⟨by first | rfl | (simp [errW_none, errW_some] <;> rfl) | (simp [*, errW_none, errW_some] <;> rfl), by repeat (first | (with_reducible first | exact HB.out | apply below_alloc | apply pw_below_drewN | apply below_drew1) | exact HB.out)⟩
  · rw [if_neg c3] at H
    have c3b0 : decide (60 < (a0.size : Int)) = false := decide_eq_false c3
    have c3b1 : decide (60 < a0.size) = false := decide_eq_false (by omega)
    clear c3
    by_cases c5 : t134 = true
    · subst c5
      have H1 : ((kinds_Hides.f k a0).bind fun t135 => ((flailref17_Hides.f a0).bind fun t136 => (if (t135 == t136) = true then ((kinds_Keeps.f k a0).bind fun t137 => ((flailref17_Keeps.f a0).bind fun t138 => (if (t137 == t138) = true then ((kinds_Lines.f k a0).bind fun t139 => ((flailref17_Lines.f k a0).bind fun t140 => (if t139 = t140 then ((kinds_Void.f k a0).bind fun t141 => ((flailref17_Void.f a0).bind fun t142 => (some (t141 == t142)))) else (some false)))) else (some false)))) else (some false)))) = some r := by rw [if_pos rfl] at H; exact H
      clear H
      have H := H1
      clear H1
      replace H := Option.bind_eq_some_iff.mp H
      obtain ⟨t135, A60, H⟩ := H
      replace H : ((flailref17_Hides.f a0).bind fun t136 => (if (t135 == t136) = true then ((kinds_Keeps.f k a0).bind fun t137 => ((flailref17_Keeps.f a0).bind fun t138 => (if (t137 == t138) = true then ((kinds_Lines.f k a0).bind fun t139 => ((flailref17_Lines.f k a0).bind fun t140 => (if t139 = t140 then ((kinds_Void.f k a0).bind fun t141 => ((flailref17_Void.f a0).bind fun t142 => (some (t141 == t142)))) else (some false)))) else (some false)))) else (some false))) = some r := H
      have A6 := Aside0.mk A60
      clear A60
      replace H := Option.bind_eq_some_iff.mp H
      obtain ⟨t136, A70, H⟩ := H
      replace H : (if (t135 == t136) = true then ((kinds_Keeps.f k a0).bind fun t137 => ((flailref17_Keeps.f a0).bind fun t138 => (if (t137 == t138) = true then ((kinds_Lines.f k a0).bind fun t139 => ((flailref17_Lines.f k a0).bind fun t140 => (if t139 = t140 then ((kinds_Void.f k a0).bind fun t141 => ((flailref17_Void.f a0).bind fun t142 => (some (t141 == t142)))) else (some false)))) else (some false)))) else (some false)) = some r := H
      have A7 := Aside0.mk A70
      clear A70
      by_cases c8 : (t135 == t136) = true
      · rw [if_pos c8] at H
        have c8b0 : (t135 == t136) = true := c8
        (try (have c8b1 : decide (t135 = t136) = true := by simpa using c8))
        (try (have c8b2 : (t135 == t136) = true := by simpa using c8))
        clear c8
        replace H := Option.bind_eq_some_iff.mp H
        obtain ⟨t137, A90, H⟩ := H
        replace H : ((flailref17_Keeps.f a0).bind fun t138 => (if (t137 == t138) = true then ((kinds_Lines.f k a0).bind fun t139 => ((flailref17_Lines.f k a0).bind fun t140 => (if t139 = t140 then ((kinds_Void.f k a0).bind fun t141 => ((flailref17_Void.f a0).bind fun t142 => (some (t141 == t142)))) else (some false)))) else (some false))) = some r := H
        have A9 := Aside0.mk A90
        clear A90
        replace H := Option.bind_eq_some_iff.mp H
        obtain ⟨t138, A100, H⟩ := H
        replace H : (if (t137 == t138) = true then ((kinds_Lines.f k a0).bind fun t139 => ((flailref17_Lines.f k a0).bind fun t140 => (if t139 = t140 then ((kinds_Void.f k a0).bind fun t141 => ((flailref17_Void.f a0).bind fun t142 => (some (t141 == t142)))) else (some false)))) else (some false)) = some r := H
        have A10 := Aside0.mk A100
        clear A100
        by_cases c11 : (t137 == t138) = true
        · rw [if_pos c11] at H
          have c11b0 : (t137 == t138) = true := c11
          (try (have c11b1 : decide (t137 = t138) = true := by simpa using c11))
          (try (have c11b2 : (t137 == t138) = true := by simpa using c11))
          clear c11
          replace H := Option.bind_eq_some_iff.mp H
          obtain ⟨t139, A120, H⟩ := H
          replace H : ((flailref17_Lines.f k a0).bind fun t140 => (if t139 = t140 then ((kinds_Void.f k a0).bind fun t141 => ((flailref17_Void.f a0).bind fun t142 => (some (t141 == t142)))) else (some false))) = some r := H
          have A12 := Aside0.mk A120
          clear A120
          replace H := Option.bind_eq_some_iff.mp H
          obtain ⟨t140, A130, H⟩ := H
          replace H : (if t139 = t140 then ((kinds_Void.f k a0).bind fun t141 => ((flailref17_Void.f a0).bind fun t142 => (some (t141 == t142)))) else (some false)) = some r := H
          have A13 := Aside0.mk A130
          clear A130
          by_cases c14 : t139 = t140
          · rw [if_pos c14] at H
            have c14b0 : (t139 == t140) = true := beq_iff_eq.mpr c14
            have c14b1 : (t139 != t140) = false := bne_eq_false_iff_eq.mpr c14
            clear c14
            replace H := Option.bind_eq_some_iff.mp H
            obtain ⟨t141, A150, H⟩ := H
            replace H : ((flailref17_Void.f a0).bind fun t142 => (some (t141 == t142))) = some r := H
            have A15 := Aside0.mk A150
            clear A150
            replace H := Option.bind_eq_some_iff.mp H
            obtain ⟨t142, A160, H⟩ := H
            replace H : (some (t141 == t142)) = some r := H
            have A16 := Aside0.mk A160
            clear A160
            obtain rfl := Option.some.inj H
            go_enter Try.func3, Try.ntmps3
            go_wp2_with (first | ((with_reducible refine gate_callee (f := 8) rfl ?_); refine goesL_ (some 4) rfl rfl Try.func8 (by kernel_rfl) rfl #[] rfl (by (try simp only [List.map_toArray, List.map_cons, List.map_nil]); first | done | rfl | (simp only [List.length_drop, List.length_take]; rfl)) ?_; (with_reducible refine (flaillaw17_awake.calls k  true _ A2.out).mono ?_); rintro e w17 ⟨rfl, hb⟩; refine ⟨_, rfl, ?_⟩; have n0_ := Aside0.mk (below_step (by repeat (first | (with_reducible first | exact HB.out | apply below_alloc | apply pw_below_drewN | apply below_drew1) | exact HB.out)) hb); clear HB; have HB := n0_; clear n0_; (try clear hb); (try clear hb2); (try clear hk); (try clear hi)) | (go_at_call 9; (with_reducible refine (kinds_Hides.calls k a0 t135 _ A6.out).mono ?_); rintro e w18 ⟨rfl, hb⟩; have n0_ := Aside0.mk (below_step (by repeat (first | (with_reducible first | exact HB.out | apply below_alloc | apply pw_below_drewN | apply below_drew1) | exact HB.out)) hb); clear HB; have HB := n0_; clear n0_; (try clear hb); (try clear hb2); (try clear hk); (try clear hi)) | (go_at_call 10; (with_reducible refine (flailref17_Hides.calls a0 t136 _ A7.out).mono ?_); rintro e w' ⟨rfl, ⟨nd, rfl⟩⟩) | (go_at_call 11; (with_reducible refine (kinds_Keeps.calls k a0 t137 _ A9.out).mono ?_); rintro e w19 ⟨rfl, hb⟩; have n0_ := Aside0.mk (below_step (by repeat (first | (with_reducible first | exact HB.out | apply below_alloc | apply pw_below_drewN | apply below_drew1) | exact HB.out)) hb); clear HB; have HB := n0_; clear n0_; (try clear hb); (try clear hb2); (try clear hk); (try clear hi)) | (go_at_call 12; (with_reducible refine (flailref17_Keeps.calls a0 t138 _ A10.out).mono ?_); rintro e w' ⟨rfl, ⟨nd, rfl⟩⟩) | (go_at_call 13; (with_reducible refine (kinds_Lines.calls k a0 t139 _ A12.out).mono ?_); rintro e w20 ⟨rfl, hb⟩; have n0_ := Aside0.mk (below_step (by repeat (first | (with_reducible first | exact HB.out | apply below_alloc | apply pw_below_drewN | apply below_drew1) | exact HB.out)) hb); clear HB; have HB := n0_; clear n0_; (try clear hb); (try clear hb2); (try clear hk); (try clear hi)) | (go_at_call 14; (with_reducible refine (flailref17_Lines.calls k a0 t140 _ A13.out).mono ?_); rintro e w' ⟨rfl, ⟨nd, rfl⟩⟩) | (go_at_call 15; (with_reducible refine (kinds_Void.calls k a0 t141 _ A15.out).mono ?_); rintro e w21 ⟨rfl, hb⟩; have n0_ := Aside0.mk (below_step (by repeat (first | (with_reducible first | exact HB.out | apply below_alloc | apply pw_below_drewN | apply below_drew1) | exact HB.out)) hb); clear HB; have HB := n0_; clear n0_; (try clear hb); (try clear hb2); (try clear hk); (try clear hi)) | (go_at_call 16; (with_reducible refine (flailref17_Void.calls a0 t142 _ A16.out).mono ?_); rintro e w' ⟨rfl, ⟨nd, rfl⟩⟩))
            go_ret
            exact ⟨by first | rfl | (simp [errW_none, errW_some] <;> rfl) | (simp [*, errW_none, errW_some] <;> rfl), by repeat (first | (with_reducible first | exact HB.out | apply below_alloc | apply pw_below_drewN | apply below_drew1) | exact HB.out)⟩
          · rw [if_neg c14] at H
            have c14b0 : (t139 == t140) = false := beq_eq_false_iff_ne.mpr c14
            have c14b1 : (t139 != t140) = true := bne_iff_ne.mpr c14
            obtain rfl := Option.some.inj H
            go_enter Try.func3, Try.ntmps3
            go_wp2_with (first | ((with_reducible refine gate_callee (f := 8) rfl ?_); refine goesL_ (some 4) rfl rfl Try.func8 (by kernel_rfl) rfl #[] rfl (by (try simp only [List.map_toArray, List.map_cons, List.map_nil]); first | done | rfl | (simp only [List.length_drop, List.length_take]; rfl)) ?_; (with_reducible refine (flaillaw17_awake.calls k  true _ A2.out).mono ?_); rintro e w22 ⟨rfl, hb⟩; refine ⟨_, rfl, ?_⟩; have n0_ := Aside0.mk (below_step (by repeat (first | (with_reducible first | exact HB.out | apply below_alloc | apply pw_below_drewN | apply below_drew1) | exact HB.out)) hb); clear HB; have HB := n0_; clear n0_; (try clear hb); (try clear hb2); (try clear hk); (try clear hi)) | (go_at_call 9; (with_reducible refine (kinds_Hides.calls k a0 t135 _ A6.out).mono ?_); rintro e w23 ⟨rfl, hb⟩; have n0_ := Aside0.mk (below_step (by repeat (first | (with_reducible first | exact HB.out | apply below_alloc | apply pw_below_drewN | apply below_drew1) | exact HB.out)) hb); clear HB; have HB := n0_; clear n0_; (try clear hb); (try clear hb2); (try clear hk); (try clear hi)) | (go_at_call 10; (with_reducible refine (flailref17_Hides.calls a0 t136 _ A7.out).mono ?_); rintro e w' ⟨rfl, ⟨nd, rfl⟩⟩) | (go_at_call 11; (with_reducible refine (kinds_Keeps.calls k a0 t137 _ A9.out).mono ?_); rintro e w24 ⟨rfl, hb⟩; have n0_ := Aside0.mk (below_step (by repeat (first | (with_reducible first | exact HB.out | apply below_alloc | apply pw_below_drewN | apply below_drew1) | exact HB.out)) hb); clear HB; have HB := n0_; clear n0_; (try clear hb); (try clear hb2); (try clear hk); (try clear hi)) | (go_at_call 12; (with_reducible refine (flailref17_Keeps.calls a0 t138 _ A10.out).mono ?_); rintro e w' ⟨rfl, ⟨nd, rfl⟩⟩) | (go_at_call 13; (with_reducible refine (kinds_Lines.calls k a0 t139 _ A12.out).mono ?_); rintro e w25 ⟨rfl, hb⟩; have n0_ := Aside0.mk (below_step (by repeat (first | (with_reducible first | exact HB.out | apply below_alloc | apply pw_below_drewN | apply below_drew1) | exact HB.out)) hb); clear HB; have HB := n0_; clear n0_; (try clear hb); (try clear hb2); (try clear hk); (try clear hi)) | (go_at_call 14; (with_reducible refine (flailref17_Lines.calls k a0 t140 _ A13.out).mono ?_); rintro e w' ⟨rfl, ⟨nd, rfl⟩⟩))
            go_ret
            exact ⟨by first | rfl | (simp [errW_none, errW_some] <;> rfl) | (simp [*, errW_none, errW_some] <;> rfl), by repeat (first | (with_reducible first | exact HB.out | apply below_alloc | apply pw_below_drewN | apply below_drew1) | exact HB.out)⟩
        · rw [if_neg c11] at H
          have c11b0 : (t137 == t138) = false := by simpa using c11
          (try (have c11b1 : decide (t137 = t138) = false := by simpa using c11))
          (try (have c11b2 : (t137 == t138) = false := by simpa using c11))
          (try (have c11b3 : ¬ (t137 = t138) := by simpa using c11))
          clear c11
          obtain rfl := Option.some.inj H
          go_enter Try.func3, Try.ntmps3
          go_wp2_with (first | ((with_reducible refine gate_callee (f := 8) rfl ?_); refine goesL_ (some 4) rfl rfl Try.func8 (by kernel_rfl) rfl #[] rfl (by (try simp only [List.map_toArray, List.map_cons, List.map_nil]); first | done | rfl | (simp only [List.length_drop, List.length_take]; rfl)) ?_; (with_reducible refine (flaillaw17_awake.calls k  true _ A2.out).mono ?_); rintro e w26 ⟨rfl, hb⟩; refine ⟨_, rfl, ?_⟩; have n0_ := Aside0.mk (below_step (by repeat (first | (with_reducible first | exact HB.out | apply below_alloc | apply pw_below_drewN | apply below_drew1) | exact HB.out)) hb); clear HB; have HB := n0_; clear n0_; (try clear hb); (try clear hb2); (try clear hk); (try clear hi)) | (go_at_call 9; (with_reducible refine (kinds_Hides.calls k a0 t135 _ A6.out).mono ?_); rintro e w27 ⟨rfl, hb⟩; have n0_ := Aside0.mk (below_step (by repeat (first | (with_reducible first | exact HB.out | apply below_alloc | apply pw_below_drewN | apply below_drew1) | exact HB.out)) hb); clear HB; have HB := n0_; clear n0_; (try clear hb); (try clear hb2); (try clear hk); (try clear hi)) | (go_at_call 10; (with_reducible refine (flailref17_Hides.calls a0 t136 _ A7.out).mono ?_); rintro e w' ⟨rfl, ⟨nd, rfl⟩⟩) | (go_at_call 11; (with_reducible refine (kinds_Keeps.calls k a0 t137 _ A9.out).mono ?_); rintro e w28 ⟨rfl, hb⟩; have n0_ := Aside0.mk (below_step (by repeat (first | (with_reducible first | exact HB.out | apply below_alloc | apply pw_below_drewN | apply below_drew1) | exact HB.out)) hb); clear HB; have HB := n0_; clear n0_; (try clear hb); (try clear hb2); (try clear hk); (try clear hi)) | (go_at_call 12; (with_reducible refine (flailref17_Keeps.calls a0 t138 _ A10.out).mono ?_); rintro e w' ⟨rfl, ⟨nd, rfl⟩⟩))
          go_ret
          exact ⟨by first | rfl | (simp [errW_none, errW_some] <;> rfl) | (simp [*, errW_none, errW_some] <;> rfl), by repeat (first | (with_reducible first | exact HB.out | apply below_alloc | apply pw_below_drewN | apply below_drew1) | exact HB.out)⟩
      · rw [if_neg c8] at H
        have c8b0 : (t135 == t136) = false := by simpa using c8
        (try (have c8b1 : decide (t135 = t136) = false := by simpa using c8))
        (try (have c8b2 : (t135 == t136) = false := by simpa using c8))
        (try (have c8b3 : ¬ (t135 = t136) := by simpa using c8))
        clear c8
        obtain rfl := Option.some.inj H
        go_enter Try.func3, Try.ntmps3
        go_wp2_with (first | ((with_reducible refine gate_callee (f := 8) rfl ?_); refine goesL_ (some 4) rfl rfl Try.func8 (by kernel_rfl) rfl #[] rfl (by (try simp only [List.map_toArray, List.map_cons, List.map_nil]); first | done | rfl | (simp only [List.length_drop, List.length_take]; rfl)) ?_; (with_reducible refine (flaillaw17_awake.calls k  true _ A2.out).mono ?_); rintro e w29 ⟨rfl, hb⟩; refine ⟨_, rfl, ?_⟩; have n0_ := Aside0.mk (below_step (by repeat (first | (with_reducible first | exact HB.out | apply below_alloc | apply pw_below_drewN | apply below_drew1) | exact HB.out)) hb); clear HB; have HB := n0_; clear n0_; (try clear hb); (try clear hb2); (try clear hk); (try clear hi)) | (go_at_call 9; (with_reducible refine (kinds_Hides.calls k a0 t135 _ A6.out).mono ?_); rintro e w30 ⟨rfl, hb⟩; have n0_ := Aside0.mk (below_step (by repeat (first | (with_reducible first | exact HB.out | apply below_alloc | apply pw_below_drewN | apply below_drew1) | exact HB.out)) hb); clear HB; have HB := n0_; clear n0_; (try clear hb); (try clear hb2); (try clear hk); (try clear hi)) | (go_at_call 10; (with_reducible refine (flailref17_Hides.calls a0 t136 _ A7.out).mono ?_); rintro e w' ⟨rfl, ⟨nd, rfl⟩⟩))
        go_ret
        exact ⟨by first | rfl | (simp [errW_none, errW_some] <;> rfl) | (simp [*, errW_none, errW_some] <;> rfl), by repeat (first | (with_reducible first | exact HB.out | apply below_alloc | apply pw_below_drewN | apply below_drew1) | exact HB.out)⟩
    · replace c5 := Bool.eq_false_iff.mpr c5
      subst c5
      have H1 : (some false) = some r := by rw [if_neg (show ¬ (false = true) by decide)] at H; exact H
      clear H
      have H := H1
      clear H1
      obtain rfl := Option.some.inj H
      go_enter Try.func3, Try.ntmps3
      go_wp2_with (first | ((with_reducible refine gate_callee (f := 8) rfl ?_); refine goesL_ (some 4) rfl rfl Try.func8 (by kernel_rfl) rfl #[] rfl (by (try simp only [List.map_toArray, List.map_cons, List.map_nil]); first | done | rfl | (simp only [List.length_drop, List.length_take]; rfl)) ?_; (with_reducible refine (flaillaw17_awake.calls k  false _ A2.out).mono ?_); rintro e w31 ⟨rfl, hb⟩; refine ⟨_, rfl, ?_⟩; have n0_ := Aside0.mk (below_step (by repeat (first | (with_reducible first | exact HB.out | apply below_alloc | apply pw_below_drewN | apply below_drew1) | exact HB.out)) hb); clear HB; have HB := n0_; clear n0_; (try clear hb); (try clear hb2); (try clear hk); (try clear hi)))
      go_ret
      exact ⟨by first | rfl | (simp [errW_none, errW_some] <;> rfl) | (simp [*, errW_none, errW_some] <;> rfl), by repeat (first | (with_reducible first | exact HB.out | apply below_alloc | apply pw_below_drewN | apply below_drew1) | exact HB.out)⟩

/-- THE ONE PURE STATEMENT of flaillaw17_KindsTells: yours. -/
def flaillaw17_KindsTells.Pure : Prop := ∀ (a0 : ByteArray), a0.size ≤ 140737488351232 → ∃ k, flaillaw17_KindsTells.f k a0 = some true
theorem flaillaw17_KindsTells.walk (P : flaillaw17_KindsTells.Pure) (a0 : ByteArray) (w : World) (w0 : a0.size ≤ 140737488351232) :
    Calls Try.prog 3 #[.string a0] w fun e w' => e = .returned (.bool true) ∧ Below w.heap.size w w' := by
  obtain ⟨k, h⟩ := P a0 w0
  refine (flaillaw17_KindsTells.calls k a0 true w h).mono ?_
  rintro e w' ⟨rfl, hd⟩
  exact ⟨rfl, hd⟩

end Go.Proofs.Ytccdjphflnghlaa.PKindsTells
