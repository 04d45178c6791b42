-- written by a program of ours, after the kit's print, for this claim (see the notes: handprint)
import Derived.Test.YtpflkcmjoiakfaaPAllx0
import Derived.Test.YtpflkcmjoiakfaaPAllx8
import Derived.Test.YtpflkcmjoiakfaaPAllx13
import Derived.Test.YtpflkcmjoiakfaaHand
namespace Go.Proofs.Ytpflkcmjoiakfaa.PAll
open Go.RowKit Go.Proofs.YtpflkcmjoiakfaaW.PrintWords Go.Proofs.YtpflkcmjoiakfaaW.PrintLast Go.Proofs.YtpflkcmjoiakfaaW.PrintMore
attribute [local go_sem] max2_int min2_int max_two min_two max_three min_three max_four min_four   -- for this text's walks alone
set_option linter.unusedVariables false
set_option linter.unusedSimpArgs false

/-! ### flaillaw01_UtfSigns: function 4 -/
def flaillaw01_UtfSigns.f (k : Nat) (a0 : Int) : Option (Bool) := (flaillaw01_awake.f).bind fun t178 => (if t178 = true then ((utf_Sign.f a0).bind fun t179 => ((flailref01_Sign.f k a0).bind fun t180 => (some (t179.toList == t180.toList)))) else (some false))
theorem flaillaw01_UtfSigns.mono : ∀ a0 k, LeO (flaillaw01_UtfSigns.f k a0) (flaillaw01_UtfSigns.f (k + 1) a0) := by
  intro a0 k
  unfold flaillaw01_UtfSigns.f
  repeat' first
      | (with_reducible exact flailref01_Sign.mono _ _)
      | (with_reducible exact LeO.refl _)
      | (with_reducible exact LeO.none _)
      | (with_reducible refine LeO.ite ?_ ?_)
      | (with_reducible refine LeO.bind ?_ (fun _ => ?_))
      | exact flailref01_Sign.mono _ _
      | exact LeO.none _
      | refine LeO.ite ?_ ?_
      | refine LeO.bind ?_ (fun _ => ?_)
set_option maxHeartbeats 8000000 in
set_option maxRecDepth 100000 in
theorem flaillaw01_UtfSigns.calls (k : Nat) (a0 : Int) (r : Bool) (w : World) (h : flaillaw01_UtfSigns.f k a0 = some r) :
    Calls Try.prog 4 #[.int .i64 a0] w fun e w' => e = .returned (.bool r) ∧ Below w.heap.size w w' := by
  have HB := Aside0.mk (Below.refl w.heap.size w)
  have H : ((flaillaw01_awake.f).bind fun t178 => (if t178 = true then ((utf_Sign.f a0).bind fun t179 => ((flailref01_Sign.f k a0).bind fun t180 => (some (t179.toList == t180.toList)))) else (some false))) = some r := h
  clear h
  replace H := Option.bind_eq_some_iff.mp H
  obtain ⟨t178, A20, H⟩ := H
  replace H : (if t178 = true then ((utf_Sign.f a0).bind fun t179 => ((flailref01_Sign.f k a0).bind fun t180 => (some (t179.toList == t180.toList)))) else (some false)) = some r := H
  have A2 := Aside0.mk A20
  clear A20
  by_cases c3 : t178 = true
  · subst c3
    have H1 : ((utf_Sign.f a0).bind fun t179 => ((flailref01_Sign.f k a0).bind fun t180 => (some (t179.toList == t180.toList)))) = some r := by rw [if_pos rfl] at H; exact H
    clear H
    have H := H1
    clear H1
    replace H := Option.bind_eq_some_iff.mp H
    obtain ⟨t179, A40, H⟩ := H
    replace H : ((flailref01_Sign.f k a0).bind fun t180 => (some (t179.toList == t180.toList))) = some r := H
    have A4 := Aside0.mk A40
    clear A40
    replace H := Option.bind_eq_some_iff.mp H
    obtain ⟨t180, A50, H⟩ := H
    replace H : (some (t179.toList == t180.toList)) = some r := H
    have A5 := Aside0.mk A50
    clear A50
    obtain rfl := Option.some.inj H
    go_enter Try.func4, Try.ntmps4
    go_wp2_with (first | ((with_reducible refine gate_callee (f := 10) rfl ?_); refine goesL_ (some 4) rfl rfl Try.func10 (by kernel_rfl) rfl #[] rfl (by (try simp only [List.map_toArray, List.map_cons, List.map_nil]); first | done | rfl | (simp only [List.length_drop, List.length_take]; rfl)) ?_; (with_reducible refine (flaillaw01_awake.calls  true _ A2.out).mono ?_); rintro e w6 ⟨rfl, hb⟩; refine ⟨_, rfl, ?_⟩; have n0_ := Aside0.mk (below_step (by repeat (first | (with_reducible first | exact HB.out | apply below_alloc | apply pw_below_drewN | apply below_drew1) | exact HB.out)) hb); clear HB; have HB := n0_; clear n0_; (try clear hb); (try clear hb2); (try clear hk); (try clear hi)) | (go_at_call 15; (with_reducible refine (utf_Sign.calls a0 t179 _ A4.out).mono ?_); rintro e w' ⟨rfl, ⟨nd, rfl⟩⟩) | (go_at_call 16; (with_reducible refine (flailref01_Sign.calls k a0 t180 _ A5.out).mono ?_); rintro e w7 ⟨rfl, hb⟩; have n0_ := Aside0.mk (below_step (by repeat (first | (with_reducible first | exact HB.out | apply below_alloc | apply pw_below_drewN | apply below_drew1) | exact HB.out)) hb); clear HB; have HB := n0_; clear n0_; (try clear hb); (try clear hb2); (try clear hk); (try clear hi)))
    go_ret
    exact ⟨by first | rfl | (simp [errW_none, errW_some] <;> rfl) | (simp [*, errW_none, errW_some] <;> rfl), by repeat (first | (with_reducible first | exact HB.out | apply below_alloc | apply pw_below_drewN | apply below_drew1) | exact HB.out)⟩
  · replace c3 := Bool.eq_false_iff.mpr c3
    subst c3
    have H1 : (some false) = some r := by rw [if_neg (show ¬ (false = true) by decide)] at H; exact H
    clear H
    have H := H1
    clear H1
    obtain rfl := Option.some.inj H
    go_enter Try.func4, Try.ntmps4
    go_wp2_with (first | ((with_reducible refine gate_callee (f := 10) rfl ?_); refine goesL_ (some 4) rfl rfl Try.func10 (by kernel_rfl) rfl #[] rfl (by (try simp only [List.map_toArray, List.map_cons, List.map_nil]); first | done | rfl | (simp only [List.length_drop, List.length_take]; rfl)) ?_; (with_reducible refine (flaillaw01_awake.calls  false _ A2.out).mono ?_); rintro e w8 ⟨rfl, hb⟩; refine ⟨_, rfl, ?_⟩; have n0_ := Aside0.mk (below_step (by repeat (first | (with_reducible first | exact HB.out | apply below_alloc | apply pw_below_drewN | apply below_drew1) | exact HB.out)) hb); clear HB; have HB := n0_; clear n0_; (try clear hb); (try clear hb2); (try clear hk); (try clear hi)))
    go_ret
    exact ⟨by first | rfl | (simp [errW_none, errW_some] <;> rfl) | (simp [*, errW_none, errW_some] <;> rfl), by repeat (first | (with_reducible first | exact HB.out | apply below_alloc | apply pw_below_drewN | apply below_drew1) | exact HB.out)⟩

/-- THE ONE PURE STATEMENT of flaillaw01_UtfSigns: yours. -/
def flaillaw01_UtfSigns.Pure : Prop := ∀ (a0 : Int), (Lit.int .i64 a0).wf = true → ∃ k, flaillaw01_UtfSigns.f k a0 = some true
theorem flaillaw01_UtfSigns.walk (P : flaillaw01_UtfSigns.Pure) (a0 : Int) (w : World) (w0 : (Lit.int .i64 a0).wf = true) :
    Calls Try.prog 4 #[.int .i64 a0] w fun e w' => e = .returned (.bool true) ∧ Below w.heap.size w w' := by
  obtain ⟨k, h⟩ := P a0 w0
  refine (flaillaw01_UtfSigns.calls k a0 true w h).mono ?_
  rintro e w' ⟨rfl, hd⟩
  exact ⟨rfl, hd⟩

end Go.Proofs.Ytpflkcmjoiakfaa.PAll
