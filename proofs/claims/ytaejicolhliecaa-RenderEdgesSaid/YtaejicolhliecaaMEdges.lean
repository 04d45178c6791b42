/- Several texts of this claim, laid together into one file. -/
import Derived.Test.YtaejicolhliecaaMPreA
import Derived.Test.YtaejicolhliecaaMPure
import Derived.Test.YtaejicolhliecaaMRendAt
import Derived.Test.YtaejicolhliecaaMFlowHand
set_option linter.unusedSimpArgs false
set_option linter.unusedVariables false
/- Written by a program of this session out of the translation, for this claim: a part of the walk of what the law calls, or the row of the law. -/
namespace Go.Proofs.Ytaejicolhliecaa.PRe
open Go.RowKit Go.Proofs.YtaejicolhliecaaW.PrintWords Go.Proofs.YtaejicolhliecaaW.PrintLast Go.Proofs.YtaejicolhliecaaW.PrintMore
attribute [local go_sem] max2_int min2_int max_two min_two max_three min_three max_four min_four   -- for this text's walks alone
set_option linter.unusedVariables false
set_option linter.unusedSimpArgs false

/-! ### flaillaw19_RenderEdges: function 10 -/
def flaillaw19_RenderEdges.l0 : Nat → Bool → ByteArray → Int → Option (Bool)
  | 0, _, _, _ => none
  | k + 1, x3, x5, x6 => if x6 < (x5.size : Int) then (if x6 = 0 then (if 0 ≤ x6 then (if (bt x5 x6) = 0 then (some false) else (if (bt x5 x6) = 13 then (some false) else (if (bt x5 x6) = 9 then (some false) else (if (bt x5 x6) = 10 then (some false) else (if (bt x5 x6) = 12 then (some false) else (if (bt x5 x6) = 32 then (some false) else (flaillaw19_RenderEdges.l0 k x3 x5 (wrap64 (x6 + 1))))))))) else (none)) else (if 0 ≤ x6 then (if (bt x5 x6) = 0 then (some false) else (if (bt x5 x6) = 13 then (some false) else (if x6 = (wrap64 ((x5.size : Int) - 1)) then (if (bt x5 x6) = 9 then (some false) else (if (bt x5 x6) = 10 then (some false) else (if (bt x5 x6) = 12 then (some false) else (if (bt x5 x6) = 32 then (some false) else (flaillaw19_RenderEdges.l0 k x3 x5 (wrap64 (x6 + 1))))))) else (flaillaw19_RenderEdges.l0 k x3 x5 (wrap64 (x6 + 1)))))) else (none))) else (some x3)
def flaillaw19_RenderEdges.f (k : Nat) (l0 : List (S47)) : Option (Bool) := (flaillaw19_awake.f).bind fun t149 => ((flailref15_Few.f k l0).bind fun t150 => (if t150 = true then ((render_Render.f l0).bind fun t151 => (flaillaw19_RenderEdges.l0 k t149 t151 0)) else (some t149)))
theorem flaillaw19_RenderEdges.mono_l : ∀ k, (∀ y0 y1 y2, LeO (flaillaw19_RenderEdges.l0 k y0 y1 y2) (flaillaw19_RenderEdges.l0 (k + 1) y0 y1 y2))
  | 0 => fun _ _ _ r h => by simp [flaillaw19_RenderEdges.l0] at h
  | k + 1 => by
    have ih0 := flaillaw19_RenderEdges.mono_l k
    · intro y0 y1 y2
      unfold flaillaw19_RenderEdges.l0
      repeat' first
      | (with_reducible exact ih0 _ _ _)
      | (with_reducible exact flailref15_Few.mono _ _)
      | (with_reducible exact LeO.refl _)
      | (with_reducible exact LeO.none _)
      | (with_reducible refine LeO.ite ?_ ?_)
      | (with_reducible refine LeO.bind ?_ (fun _ => ?_))
      | exact ih0 _ _ _
      | exact flailref15_Few.mono _ _
      | exact LeO.none _
      | refine LeO.ite ?_ ?_
      | refine LeO.bind ?_ (fun _ => ?_)
theorem flaillaw19_RenderEdges.mono : ∀ a0 k, LeO (flaillaw19_RenderEdges.f k a0) (flaillaw19_RenderEdges.f (k + 1) a0) := by
  intro a0 k
  have ih0 := flaillaw19_RenderEdges.mono_l k
  unfold flaillaw19_RenderEdges.f
  repeat' first
      | (with_reducible exact ih0 _ _ _)
      | (with_reducible exact flailref15_Few.mono _ _)
      | (with_reducible exact LeO.refl _)
      | (with_reducible exact LeO.none _)
      | (with_reducible refine LeO.ite ?_ ?_)
      | (with_reducible refine LeO.bind ?_ (fun _ => ?_))
      | exact ih0 _ _ _
      | exact flailref15_Few.mono _ _
      | exact LeO.none _
      | refine LeO.ite ?_ ?_
      | refine LeO.bind ?_ (fun _ => ?_)
set_option maxHeartbeats 8000000 in
set_option maxRecDepth 100000 in
theorem flaillaw19_RenderEdges.calls (k : Nat) (A0 : Option Addr) (c0 : Nat) (l0 : List (S47)) (r : Bool) (w : World) (hr0 : Kd.C k47 w A0 l0.length l0) (hc0 : l0.length ≤ c0) (h : flaillaw19_RenderEdges.f k l0 = some r) :
    Calls Try.prog 10 #[.slice A0 l0.length c0] w fun e w' => e = .returned (.bool r) ∧ Below w.heap.size w w' := by
  have HR0 := Aside0.mk hr0
  have HC0 := Aside0.mk hc0
  clear hr0 hc0
  have HB := Aside0.mk (Below.refl w.heap.size w)
  have H : ((flaillaw19_awake.f).bind fun t149 => ((flailref15_Few.f k l0).bind fun t150 => (if t150 = true then ((render_Render.f l0).bind fun t151 => (flaillaw19_RenderEdges.l0 k t149 t151 0)) else (some t149)))) = some r := h
  clear h
  replace H := Option.bind_eq_some_iff.mp H
  obtain ⟨t149, A20, H⟩ := H
  replace H : ((flailref15_Few.f k l0).bind fun t150 => (if t150 = true then ((render_Render.f l0).bind fun t151 => (flaillaw19_RenderEdges.l0 k t149 t151 0)) else (some t149))) = some r := H
  have A2 := Aside0.mk A20
  clear A20
  replace H := Option.bind_eq_some_iff.mp H
  obtain ⟨t150, A30, H⟩ := H
  replace H : (if t150 = true then ((render_Render.f l0).bind fun t151 => (flaillaw19_RenderEdges.l0 k t149 t151 0)) else (some t149)) = some r := H
  have A3 := Aside0.mk A30
  clear A30
  by_cases c4 : t150 = true
  · subst c4
    have H1 : ((render_Render.f l0).bind fun t151 => (flaillaw19_RenderEdges.l0 k t149 t151 0)) = some r := by rw [if_pos rfl] at H; exact H
    clear H
    have H := H1
    clear H1
    replace H := Option.bind_eq_some_iff.mp H
    obtain ⟨t151, A50, H⟩ := H
    replace H : (flaillaw19_RenderEdges.l0 k t149 t151 0) = some r := H
    have A5 := Aside0.mk A50
    clear A50
    have H' := Aside0.mk H
    clear H
    go_enter Try.func10, Try.ntmps10
    go_wp2_with (first | ((with_reducible refine gate_callee (f := 25) rfl ?_); refine goesL_ (some 8) rfl rfl Try.func25 (by kernel_rfl) rfl #[] rfl (by (try simp only [List.map_toArray, List.map_cons, List.map_nil]); first | done | rfl | (simp only [List.length_drop, List.length_take]; rfl)) ?_; (with_reducible refine (flaillaw19_awake.calls  t149 _ A2.out).mono ?_); rintro e w6 ⟨rfl, hb⟩; refine ⟨_, rfl, ?_⟩; have n0_ := Aside0.mk (below_step (by repeat (first | (with_reducible first | exact HB.out | apply below_alloc | apply pw_below_drewN | apply below_drew1) | exact HB.out)) hb); clear HB; have HB := n0_; clear n0_; (try clear hb); (try clear hb2); (try clear hk); (try clear hi)) | ((with_reducible refine gate_callee (f := 26) rfl ?_); refine goesL_ (some 10) rfl rfl Try.func26 (by kernel_rfl) rfl #[.slice A0 l0.length c0] rfl (by (try simp only [List.map_toArray, List.map_cons, List.map_nil]); first | done | rfl | (simp only [List.length_drop, List.length_take]; rfl)) ?_; (with_reducible refine (flailref15_Few.calls k _ _ l0 true _ ?side1 ?side2 A3.out).mono ?_); (case side1 => repeat (first | exact (Kd.C_below HR0.out HB.out) | (with_reducible refine Kd.C_alloc ?_ _) | (with_reducible refine Kd.C_drewN ?_ _) | (with_reducible refine Kd.C_drew ?_))); (case side2 => exact HC0.out); rintro e w' ⟨rfl, ⟨nd, rfl⟩⟩; refine ⟨_, rfl, ?_⟩) | ((with_reducible refine gate_callee (f := 27) rfl ?_); refine goesL_ (some 15) rfl rfl Try.func27 (by kernel_rfl) rfl #[.slice A0 l0.length c0] rfl (by (try simp only [List.map_toArray, List.map_cons, List.map_nil]); first | done | rfl | (simp only [List.length_drop, List.length_take]; rfl)) ?_; (with_reducible refine (render_Render.calls _ _ l0 t151 _ ?side1 ?side2 A5.out).mono ?_); (case side1 => repeat (first | exact (Kd.C_below HR0.out (by repeat (first | (with_reducible first | exact HB.out | apply below_alloc | apply pw_below_drewN | apply below_drew1) | exact HB.out))) | (with_reducible refine Kd.C_alloc ?_ _) | (with_reducible refine Kd.C_drewN ?_ _) | (with_reducible refine Kd.C_drew ?_))); (case side2 => exact HC0.out); rintro e w7 ⟨rfl, hb⟩; refine ⟨_, rfl, ?_⟩; have n0_ := Aside0.mk (below_step (by repeat (first | (with_reducible first | exact HB.out | apply below_alloc | apply pw_below_drewN | apply below_drew1) | exact HB.out)) hb); clear HB; have HB := n0_; clear n0_; (try clear hb); (try clear hb2); (try clear hk); (try clear hi)))
    go_loopg [6] k (fun kq v6 w' => ∃ (x6_1 : Int), v6 = .int .i64 x6_1 ∧ Aside0 (flaillaw19_RenderEdges.l0 kq t149 t151 x6_1 = some r) ∧ Aside0 (kq ≤ k) ∧ Aside0 (Below w.heap.size w w'))
    case atStart => exact ⟨(0), (by first | rfl | (simp; done) | (simp [*]; done)), H', ⟨Nat.le_refl _⟩, ⟨by repeat (first | (with_reducible first | exact HB.out | apply below_alloc | apply pw_below_drewN | apply below_drew1) | exact HB.out)⟩⟩
    case round =>
      clear H'
      try clear c1
      try clear c2
      try clear p2
      try clear c4
      obtain ⟨x6_1, rfl, HA, HK1, HB⟩ := hrel
      cases gk with
      | zero => exact absurd HA.out (by simp [flaillaw19_RenderEdges.l0])
      | succ k1 =>
        have H := HA.out
        clear HA
        simp only [flaillaw19_RenderEdges.l0] at H
        by_cases c8 : x6_1 < (t151.size : Int)
        · rw [if_pos c8] at H
          have c8b0 : decide (x6_1 < (t151.size : Int)) = true := decide_eq_true c8
          clear c8
          by_cases c9 : x6_1 = 0
          · rw [if_pos c9] at H
            have c9b0 : (x6_1 == 0) = true := beq_iff_eq.mpr c9
            have c9b1 : (x6_1 != 0) = false := bne_eq_false_iff_eq.mpr c9
            clear c9
            by_cases c10 : 0 ≤ x6_1
            · rw [if_pos c10] at H
              have c10b0 : decide (0 ≤ x6_1) = true := decide_eq_true c10
              clear c10
              by_cases c12 : (bt t151 x6_1) = 0
              · rw [if_pos c12] at H
                have c12b0 : ((bt t151 x6_1) == 0) = true := beq_iff_eq.mpr c12
                have c12b1 : ((bt t151 x6_1) != 0) = false := bne_eq_false_iff_eq.mpr c12
                clear c12
                obtain rfl := Option.some.inj H
                have p11 : 0 ≤ (x6_1 : Int) := of_decide_eq_true (by first | (with_reducible assumption) | assumption)
                have q11 : x6_1 < (t151.size : Int) := of_decide_eq_true (by first | (with_reducible assumption) | assumption)
                have hx11 := bt_at t151 x6_1
                replace p11 := eq_true p11
                replace q11 := eq_true q11
                go_wp2
                go_ret
                exact ⟨by first | rfl | (simp [errW_none, errW_some] <;> rfl) | (simp [*, errW_none, errW_some] <;> rfl), by repeat (first | (with_reducible first | exact HB.out | apply below_alloc | apply pw_below_drewN | apply below_drew1) | exact HB.out)⟩
              · rw [if_neg c12] at H
                have c12b0 : ((bt t151 x6_1) == 0) = false := beq_eq_false_iff_ne.mpr c12
                have c12b1 : ((bt t151 x6_1) != 0) = true := bne_iff_ne.mpr c12
                by_cases c14 : (bt t151 x6_1) = 13
                · rw [if_pos c14] at H
                  have c14b0 : ((bt t151 x6_1) == 13) = true := beq_iff_eq.mpr c14
                  have c14b1 : ((bt t151 x6_1) != 13) = false := bne_eq_false_iff_eq.mpr c14
                  clear c14
                  obtain rfl := Option.some.inj H
                  have p11 : 0 ≤ (x6_1 : Int) := of_decide_eq_true (by first | (with_reducible assumption) | assumption)
                  have q11 : x6_1 < (t151.size : Int) := of_decide_eq_true (by first | (with_reducible assumption) | assumption)
                  have hx11 := bt_at t151 x6_1
                  replace p11 := eq_true p11
                  replace q11 := eq_true q11
                  have p13 : 0 ≤ (x6_1 : Int) := of_decide_eq_true (by first | (with_reducible assumption) | assumption)
                  have q13 : x6_1 < (t151.size : Int) := of_decide_eq_true (by first | (with_reducible assumption) | assumption)
                  have hx13 := bt_at t151 x6_1
                  replace p13 := eq_true p13
                  replace q13 := eq_true q13
                  go_wp2
                  go_ret
                  exact ⟨by first | rfl | (simp [errW_none, errW_some] <;> rfl) | (simp [*, errW_none, errW_some] <;> rfl), by repeat (first | (with_reducible first | exact HB.out | apply below_alloc | apply pw_below_drewN | apply below_drew1) | exact HB.out)⟩
                · rw [if_neg c14] at H
                  have c14b0 : ((bt t151 x6_1) == 13) = false := beq_eq_false_iff_ne.mpr c14
                  have c14b1 : ((bt t151 x6_1) != 13) = true := bne_iff_ne.mpr c14
                  by_cases c16 : (bt t151 x6_1) = 9
                  · rw [if_pos c16] at H
                    have c16b0 : ((bt t151 x6_1) == 9) = true := beq_iff_eq.mpr c16
                    have c16b1 : ((bt t151 x6_1) != 9) = false := bne_eq_false_iff_eq.mpr c16
                    clear c16
                    obtain rfl := Option.some.inj H
                    have p11 : 0 ≤ (x6_1 : Int) := of_decide_eq_true (by first | (with_reducible assumption) | assumption)
                    have q11 : x6_1 < (t151.size : Int) := of_decide_eq_true (by first | (with_reducible assumption) | assumption)
                    have hx11 := bt_at t151 x6_1
                    replace p11 := eq_true p11
                    replace q11 := eq_true q11
                    have p13 : 0 ≤ (x6_1 : Int) := of_decide_eq_true (by first | (with_reducible assumption) | assumption)
                    have q13 : x6_1 < (t151.size : Int) := of_decide_eq_true (by first | (with_reducible assumption) | assumption)
                    have hx13 := bt_at t151 x6_1
                    replace p13 := eq_true p13
                    replace q13 := eq_true q13
                    have p15 : 0 ≤ (x6_1 : Int) := of_decide_eq_true (by first | (with_reducible assumption) | assumption)
                    have q15 : x6_1 < (t151.size : Int) := of_decide_eq_true (by first | (with_reducible assumption) | assumption)
                    have hx15 := bt_at t151 x6_1
                    replace p15 := eq_true p15
                    replace q15 := eq_true q15
                    go_wp2
                    go_ret
                    exact ⟨by first | rfl | (simp [errW_none, errW_some] <;> rfl) | (simp [*, errW_none, errW_some] <;> rfl), by repeat (first | (with_reducible first | exact HB.out | apply below_alloc | apply pw_below_drewN | apply below_drew1) | exact HB.out)⟩
                  · rw [if_neg c16] at H
                    have c16b0 : ((bt t151 x6_1) == 9) = false := beq_eq_false_iff_ne.mpr c16
                    have c16b1 : ((bt t151 x6_1) != 9) = true := bne_iff_ne.mpr c16
                    by_cases c18 : (bt t151 x6_1) = 10
                    · rw [if_pos c18] at H
                      have c18b0 : ((bt t151 x6_1) == 10) = true := beq_iff_eq.mpr c18
                      have c18b1 : ((bt t151 x6_1) != 10) = false := bne_eq_false_iff_eq.mpr c18
                      clear c18
                      obtain rfl := Option.some.inj H
                      have p11 : 0 ≤ (x6_1 : Int) := of_decide_eq_true (by first | (with_reducible assumption) | assumption)
                      have q11 : x6_1 < (t151.size : Int) := of_decide_eq_true (by first | (with_reducible assumption) | assumption)
                      have hx11 := bt_at t151 x6_1
                      replace p11 := eq_true p11
                      replace q11 := eq_true q11
                      have p13 : 0 ≤ (x6_1 : Int) := of_decide_eq_true (by first | (with_reducible assumption) | assumption)
                      have q13 : x6_1 < (t151.size : Int) := of_decide_eq_true (by first | (with_reducible assumption) | assumption)
                      have hx13 := bt_at t151 x6_1
                      replace p13 := eq_true p13
                      replace q13 := eq_true q13
                      have p15 : 0 ≤ (x6_1 : Int) := of_decide_eq_true (by first | (with_reducible assumption) | assumption)
                      have q15 : x6_1 < (t151.size : Int) := of_decide_eq_true (by first | (with_reducible assumption) | assumption)
                      have hx15 := bt_at t151 x6_1
                      replace p15 := eq_true p15
                      replace q15 := eq_true q15
                      have p17 : 0 ≤ (x6_1 : Int) := of_decide_eq_true (by first | (with_reducible assumption) | assumption)
                      have q17 : x6_1 < (t151.size : Int) := of_decide_eq_true (by first | (with_reducible assumption) | assumption)
                      have hx17 := bt_at t151 x6_1
                      replace p17 := eq_true p17
                      replace q17 := eq_true q17
                      go_wp2
                      go_ret
                      exact ⟨by first | rfl | (simp [errW_none, errW_some] <;> rfl) | (simp [*, errW_none, errW_some] <;> rfl), by repeat (first | (with_reducible first | exact HB.out | apply below_alloc | apply pw_below_drewN | apply below_drew1) | exact HB.out)⟩
                    · rw [if_neg c18] at H
                      have c18b0 : ((bt t151 x6_1) == 10) = false := beq_eq_false_iff_ne.mpr c18
                      have c18b1 : ((bt t151 x6_1) != 10) = true := bne_iff_ne.mpr c18
                      by_cases c20 : (bt t151 x6_1) = 12
                      · rw [if_pos c20] at H
                        have c20b0 : ((bt t151 x6_1) == 12) = true := beq_iff_eq.mpr c20
                        have c20b1 : ((bt t151 x6_1) != 12) = false := bne_eq_false_iff_eq.mpr c20
                        clear c20
                        obtain rfl := Option.some.inj H
                        have p11 : 0 ≤ (x6_1 : Int) := of_decide_eq_true (by first | (with_reducible assumption) | assumption)
                        have q11 : x6_1 < (t151.size : Int) := of_decide_eq_true (by first | (with_reducible assumption) | assumption)
                        have hx11 := bt_at t151 x6_1
                        replace p11 := eq_true p11
                        replace q11 := eq_true q11
                        have p13 : 0 ≤ (x6_1 : Int) := of_decide_eq_true (by first | (with_reducible assumption) | assumption)
                        have q13 : x6_1 < (t151.size : Int) := of_decide_eq_true (by first | (with_reducible assumption) | assumption)
                        have hx13 := bt_at t151 x6_1
                        replace p13 := eq_true p13
                        replace q13 := eq_true q13
                        have p15 : 0 ≤ (x6_1 : Int) := of_decide_eq_true (by first | (with_reducible assumption) | assumption)
                        have q15 : x6_1 < (t151.size : Int) := of_decide_eq_true (by first | (with_reducible assumption) | assumption)
                        have hx15 := bt_at t151 x6_1
                        replace p15 := eq_true p15
                        replace q15 := eq_true q15
                        have p17 : 0 ≤ (x6_1 : Int) := of_decide_eq_true (by first | (with_reducible assumption) | assumption)
                        have q17 : x6_1 < (t151.size : Int) := of_decide_eq_true (by first | (with_reducible assumption) | assumption)
                        have hx17 := bt_at t151 x6_1
                        replace p17 := eq_true p17
                        replace q17 := eq_true q17
                        have p19 : 0 ≤ (x6_1 : Int) := of_decide_eq_true (by first | (with_reducible assumption) | assumption)
                        have q19 : x6_1 < (t151.size : Int) := of_decide_eq_true (by first | (with_reducible assumption) | assumption)
                        have hx19 := bt_at t151 x6_1
                        replace p19 := eq_true p19
                        replace q19 := eq_true q19
                        go_wp2
                        go_ret
                        exact ⟨by first | rfl | (simp [errW_none, errW_some] <;> rfl) | (simp [*, errW_none, errW_some] <;> rfl), by repeat (first | (with_reducible first | exact HB.out | apply below_alloc | apply pw_below_drewN | apply below_drew1) | exact HB.out)⟩
                      · rw [if_neg c20] at H
                        have c20b0 : ((bt t151 x6_1) == 12) = false := beq_eq_false_iff_ne.mpr c20
                        have c20b1 : ((bt t151 x6_1) != 12) = true := bne_iff_ne.mpr c20
                        by_cases c22 : (bt t151 x6_1) = 32
                        · rw [if_pos c22] at H
                          have c22b0 : ((bt t151 x6_1) == 32) = true := beq_iff_eq.mpr c22
                          have c22b1 : ((bt t151 x6_1) != 32) = false := bne_eq_false_iff_eq.mpr c22
                          clear c22
                          obtain rfl := Option.some.inj H
                          have p11 : 0 ≤ (x6_1 : Int) := of_decide_eq_true (by first | (with_reducible assumption) | assumption)
                          have q11 : x6_1 < (t151.size : Int) := of_decide_eq_true (by first | (with_reducible assumption) | assumption)
                          have hx11 := bt_at t151 x6_1
                          replace p11 := eq_true p11
                          replace q11 := eq_true q11
                          have p13 : 0 ≤ (x6_1 : Int) := of_decide_eq_true (by first | (with_reducible assumption) | assumption)
                          have q13 : x6_1 < (t151.size : Int) := of_decide_eq_true (by first | (with_reducible assumption) | assumption)
                          have hx13 := bt_at t151 x6_1
                          replace p13 := eq_true p13
                          replace q13 := eq_true q13
                          have p15 : 0 ≤ (x6_1 : Int) := of_decide_eq_true (by first | (with_reducible assumption) | assumption)
                          have q15 : x6_1 < (t151.size : Int) := of_decide_eq_true (by first | (with_reducible assumption) | assumption)
                          have hx15 := bt_at t151 x6_1
                          replace p15 := eq_true p15
                          replace q15 := eq_true q15
                          have p17 : 0 ≤ (x6_1 : Int) := of_decide_eq_true (by first | (with_reducible assumption) | assumption)
                          have q17 : x6_1 < (t151.size : Int) := of_decide_eq_true (by first | (with_reducible assumption) | assumption)
                          have hx17 := bt_at t151 x6_1
                          replace p17 := eq_true p17
                          replace q17 := eq_true q17
                          have p19 : 0 ≤ (x6_1 : Int) := of_decide_eq_true (by first | (with_reducible assumption) | assumption)
                          have q19 : x6_1 < (t151.size : Int) := of_decide_eq_true (by first | (with_reducible assumption) | assumption)
                          have hx19 := bt_at t151 x6_1
                          replace p19 := eq_true p19
                          replace q19 := eq_true q19
                          have p21 : 0 ≤ (x6_1 : Int) := of_decide_eq_true (by first | (with_reducible assumption) | assumption)
                          have q21 : x6_1 < (t151.size : Int) := of_decide_eq_true (by first | (with_reducible assumption) | assumption)
                          have hx21 := bt_at t151 x6_1
                          replace p21 := eq_true p21
                          replace q21 := eq_true q21
                          go_wp2
                          go_ret
                          exact ⟨by first | rfl | (simp [errW_none, errW_some] <;> rfl) | (simp [*, errW_none, errW_some] <;> rfl), by repeat (first | (with_reducible first | exact HB.out | apply below_alloc | apply pw_below_drewN | apply below_drew1) | exact HB.out)⟩
                        · rw [if_neg c22] at H
                          have c22b0 : ((bt t151 x6_1) == 32) = false := beq_eq_false_iff_ne.mpr c22
                          have c22b1 : ((bt t151 x6_1) != 32) = true := bne_iff_ne.mpr c22
                          have H' := Aside0.mk H
                          clear H
                          have p11 : 0 ≤ (x6_1 : Int) := of_decide_eq_true (by first | (with_reducible assumption) | assumption)
                          have q11 : x6_1 < (t151.size : Int) := of_decide_eq_true (by first | (with_reducible assumption) | assumption)
                          have hx11 := bt_at t151 x6_1
                          replace p11 := eq_true p11
                          replace q11 := eq_true q11
                          have p13 : 0 ≤ (x6_1 : Int) := of_decide_eq_true (by first | (with_reducible assumption) | assumption)
                          have q13 : x6_1 < (t151.size : Int) := of_decide_eq_true (by first | (with_reducible assumption) | assumption)
                          have hx13 := bt_at t151 x6_1
                          replace p13 := eq_true p13
                          replace q13 := eq_true q13
                          have p15 : 0 ≤ (x6_1 : Int) := of_decide_eq_true (by first | (with_reducible assumption) | assumption)
                          have q15 : x6_1 < (t151.size : Int) := of_decide_eq_true (by first | (with_reducible assumption) | assumption)
                          have hx15 := bt_at t151 x6_1
                          replace p15 := eq_true p15
                          replace q15 := eq_true q15
                          have p17 : 0 ≤ (x6_1 : Int) := of_decide_eq_true (by first | (with_reducible assumption) | assumption)
                          have q17 : x6_1 < (t151.size : Int) := of_decide_eq_true (by first | (with_reducible assumption) | assumption)
                          have hx17 := bt_at t151 x6_1
                          replace p17 := eq_true p17
                          replace q17 := eq_true q17
                          have p19 : 0 ≤ (x6_1 : Int) := of_decide_eq_true (by first | (with_reducible assumption) | assumption)
                          have q19 : x6_1 < (t151.size : Int) := of_decide_eq_true (by first | (with_reducible assumption) | assumption)
                          have hx19 := bt_at t151 x6_1
                          replace p19 := eq_true p19
                          replace q19 := eq_true q19
                          have p21 : 0 ≤ (x6_1 : Int) := of_decide_eq_true (by first | (with_reducible assumption) | assumption)
                          have q21 : x6_1 < (t151.size : Int) := of_decide_eq_true (by first | (with_reducible assumption) | assumption)
                          have hx21 := bt_at t151 x6_1
                          replace p21 := eq_true p21
                          replace q21 := eq_true q21
                          go_wp2
                          go_roundg k1
                          case measure => have := HK1.out; omega
                          case rel => exact ⟨(wrap64 (x6_1 + 1)), (by first | rfl | (simp; done) | (simp [*]; done)), H', ⟨by have := HK1.out; omega⟩, ⟨by repeat (first | (with_reducible first | exact HB.out | apply below_alloc | apply pw_below_drewN | apply below_drew1) | exact HB.out)⟩⟩
            · rw [if_neg c10] at H
              exact absurd H (by simp)
          · rw [if_neg c9] at H
            have c9b0 : (x6_1 == 0) = false := beq_eq_false_iff_ne.mpr c9
            have c9b1 : (x6_1 != 0) = true := bne_iff_ne.mpr c9
            by_cases c23 : 0 ≤ x6_1
            · rw [if_pos c23] at H
              have c23b0 : decide (0 ≤ x6_1) = true := decide_eq_true c23
              clear c23
              by_cases c25 : (bt t151 x6_1) = 0
              · rw [if_pos c25] at H
                have c25b0 : ((bt t151 x6_1) == 0) = true := beq_iff_eq.mpr c25
                have c25b1 : ((bt t151 x6_1) != 0) = false := bne_eq_false_iff_eq.mpr c25
                clear c25
                obtain rfl := Option.some.inj H
                have p24 : 0 ≤ (x6_1 : Int) := of_decide_eq_true (by first | (with_reducible assumption) | assumption)
                have q24 : x6_1 < (t151.size : Int) := of_decide_eq_true (by first | (with_reducible assumption) | assumption)
                have hx24 := bt_at t151 x6_1
                replace p24 := eq_true p24
                replace q24 := eq_true q24
                go_wp2
                go_ret
                exact ⟨by first | rfl | (simp [errW_none, errW_some] <;> rfl) | (simp [*, errW_none, errW_some] <;> rfl), by repeat (first | (with_reducible first | exact HB.out | apply below_alloc | apply pw_below_drewN | apply below_drew1) | exact HB.out)⟩
              · rw [if_neg c25] at H
                have c25b0 : ((bt t151 x6_1) == 0) = false := beq_eq_false_iff_ne.mpr c25
                have c25b1 : ((bt t151 x6_1) != 0) = true := bne_iff_ne.mpr c25
                by_cases c27 : (bt t151 x6_1) = 13
                · rw [if_pos c27] at H
                  have c27b0 : ((bt t151 x6_1) == 13) = true := beq_iff_eq.mpr c27
                  have c27b1 : ((bt t151 x6_1) != 13) = false := bne_eq_false_iff_eq.mpr c27
                  clear c27
                  obtain rfl := Option.some.inj H
                  have p24 : 0 ≤ (x6_1 : Int) := of_decide_eq_true (by first | (with_reducible assumption) | assumption)
                  have q24 : x6_1 < (t151.size : Int) := of_decide_eq_true (by first | (with_reducible assumption) | assumption)
                  have hx24 := bt_at t151 x6_1
                  replace p24 := eq_true p24
                  replace q24 := eq_true q24
                  have p26 : 0 ≤ (x6_1 : Int) := of_decide_eq_true (by first | (with_reducible assumption) | assumption)
                  have q26 : x6_1 < (t151.size : Int) := of_decide_eq_true (by first | (with_reducible assumption) | assumption)
                  have hx26 := bt_at t151 x6_1
                  replace p26 := eq_true p26
                  replace q26 := eq_true q26
                  go_wp2
                  go_ret
                  exact ⟨by first | rfl | (simp [errW_none, errW_some] <;> rfl) | (simp [*, errW_none, errW_some] <;> rfl), by repeat (first | (with_reducible first | exact HB.out | apply below_alloc | apply pw_below_drewN | apply below_drew1) | exact HB.out)⟩
                · rw [if_neg c27] at H
                  have c27b0 : ((bt t151 x6_1) == 13) = false := beq_eq_false_iff_ne.mpr c27
                  have c27b1 : ((bt t151 x6_1) != 13) = true := bne_iff_ne.mpr c27
                  by_cases c28 : x6_1 = (wrap64 ((t151.size : Int) - 1))
                  · rw [if_pos c28] at H
                    have c28b0 : (x6_1 == (wrap64 ((t151.size : Int) - 1))) = true := beq_iff_eq.mpr c28
                    have c28b1 : (x6_1 != (wrap64 ((t151.size : Int) - 1))) = false := bne_eq_false_iff_eq.mpr c28
                    clear c28
                    by_cases c30 : (bt t151 x6_1) = 9
                    · rw [if_pos c30] at H
                      have c30b0 : ((bt t151 x6_1) == 9) = true := beq_iff_eq.mpr c30
                      have c30b1 : ((bt t151 x6_1) != 9) = false := bne_eq_false_iff_eq.mpr c30
                      clear c30
                      obtain rfl := Option.some.inj H
                      have p24 : 0 ≤ (x6_1 : Int) := of_decide_eq_true (by first | (with_reducible assumption) | assumption)
                      have q24 : x6_1 < (t151.size : Int) := of_decide_eq_true (by first | (with_reducible assumption) | assumption)
                      have hx24 := bt_at t151 x6_1
                      replace p24 := eq_true p24
                      replace q24 := eq_true q24
                      have p26 : 0 ≤ (x6_1 : Int) := of_decide_eq_true (by first | (with_reducible assumption) | assumption)
                      have q26 : x6_1 < (t151.size : Int) := of_decide_eq_true (by first | (with_reducible assumption) | assumption)
                      have hx26 := bt_at t151 x6_1
                      replace p26 := eq_true p26
                      replace q26 := eq_true q26
                      have p29 : 0 ≤ (x6_1 : Int) := of_decide_eq_true (by first | (with_reducible assumption) | assumption)
                      have q29 : x6_1 < (t151.size : Int) := of_decide_eq_true (by first | (with_reducible assumption) | assumption)
                      have hx29 := bt_at t151 x6_1
                      replace p29 := eq_true p29
                      replace q29 := eq_true q29
                      go_wp2
                      go_ret
                      exact ⟨by first | rfl | (simp [errW_none, errW_some] <;> rfl) | (simp [*, errW_none, errW_some] <;> rfl), by repeat (first | (with_reducible first | exact HB.out | apply below_alloc | apply pw_below_drewN | apply below_drew1) | exact HB.out)⟩
                    · rw [if_neg c30] at H
                      have c30b0 : ((bt t151 x6_1) == 9) = false := beq_eq_false_iff_ne.mpr c30
                      have c30b1 : ((bt t151 x6_1) != 9) = true := bne_iff_ne.mpr c30
                      by_cases c32 : (bt t151 x6_1) = 10
                      · rw [if_pos c32] at H
                        have c32b0 : ((bt t151 x6_1) == 10) = true := beq_iff_eq.mpr c32
                        have c32b1 : ((bt t151 x6_1) != 10) = false := bne_eq_false_iff_eq.mpr c32
                        clear c32
                        obtain rfl := Option.some.inj H
                        have p24 : 0 ≤ (x6_1 : Int) := of_decide_eq_true (by first | (with_reducible assumption) | assumption)
                        have q24 : x6_1 < (t151.size : Int) := of_decide_eq_true (by first | (with_reducible assumption) | assumption)
                        have hx24 := bt_at t151 x6_1
                        replace p24 := eq_true p24
                        replace q24 := eq_true q24
                        have p26 : 0 ≤ (x6_1 : Int) := of_decide_eq_true (by first | (with_reducible assumption) | assumption)
                        have q26 : x6_1 < (t151.size : Int) := of_decide_eq_true (by first | (with_reducible assumption) | assumption)
                        have hx26 := bt_at t151 x6_1
                        replace p26 := eq_true p26
                        replace q26 := eq_true q26
                        have p29 : 0 ≤ (x6_1 : Int) := of_decide_eq_true (by first | (with_reducible assumption) | assumption)
                        have q29 : x6_1 < (t151.size : Int) := of_decide_eq_true (by first | (with_reducible assumption) | assumption)
                        have hx29 := bt_at t151 x6_1
                        replace p29 := eq_true p29
                        replace q29 := eq_true q29
                        have p31 : 0 ≤ (x6_1 : Int) := of_decide_eq_true (by first | (with_reducible assumption) | assumption)
                        have q31 : x6_1 < (t151.size : Int) := of_decide_eq_true (by first | (with_reducible assumption) | assumption)
                        have hx31 := bt_at t151 x6_1
                        replace p31 := eq_true p31
                        replace q31 := eq_true q31
                        go_wp2
                        go_ret
                        exact ⟨by first | rfl | (simp [errW_none, errW_some] <;> rfl) | (simp [*, errW_none, errW_some] <;> rfl), by repeat (first | (with_reducible first | exact HB.out | apply below_alloc | apply pw_below_drewN | apply below_drew1) | exact HB.out)⟩
                      · rw [if_neg c32] at H
                        have c32b0 : ((bt t151 x6_1) == 10) = false := beq_eq_false_iff_ne.mpr c32
                        have c32b1 : ((bt t151 x6_1) != 10) = true := bne_iff_ne.mpr c32
                        by_cases c34 : (bt t151 x6_1) = 12
                        · rw [if_pos c34] at H
                          have c34b0 : ((bt t151 x6_1) == 12) = true := beq_iff_eq.mpr c34
                          have c34b1 : ((bt t151 x6_1) != 12) = false := bne_eq_false_iff_eq.mpr c34
                          clear c34
                          obtain rfl := Option.some.inj H
                          have p24 : 0 ≤ (x6_1 : Int) := of_decide_eq_true (by first | (with_reducible assumption) | assumption)
                          have q24 : x6_1 < (t151.size : Int) := of_decide_eq_true (by first | (with_reducible assumption) | assumption)
                          have hx24 := bt_at t151 x6_1
                          replace p24 := eq_true p24
                          replace q24 := eq_true q24
                          have p26 : 0 ≤ (x6_1 : Int) := of_decide_eq_true (by first | (with_reducible assumption) | assumption)
                          have q26 : x6_1 < (t151.size : Int) := of_decide_eq_true (by first | (with_reducible assumption) | assumption)
                          have hx26 := bt_at t151 x6_1
                          replace p26 := eq_true p26
                          replace q26 := eq_true q26
                          have p29 : 0 ≤ (x6_1 : Int) := of_decide_eq_true (by first | (with_reducible assumption) | assumption)
                          have q29 : x6_1 < (t151.size : Int) := of_decide_eq_true (by first | (with_reducible assumption) | assumption)
                          have hx29 := bt_at t151 x6_1
                          replace p29 := eq_true p29
                          replace q29 := eq_true q29
                          have p31 : 0 ≤ (x6_1 : Int) := of_decide_eq_true (by first | (with_reducible assumption) | assumption)
                          have q31 : x6_1 < (t151.size : Int) := of_decide_eq_true (by first | (with_reducible assumption) | assumption)
                          have hx31 := bt_at t151 x6_1
                          replace p31 := eq_true p31
                          replace q31 := eq_true q31
                          have p33 : 0 ≤ (x6_1 : Int) := of_decide_eq_true (by first | (with_reducible assumption) | assumption)
                          have q33 : x6_1 < (t151.size : Int) := of_decide_eq_true (by first | (with_reducible assumption) | assumption)
                          have hx33 := bt_at t151 x6_1
                          replace p33 := eq_true p33
                          replace q33 := eq_true q33
                          go_wp2
                          go_ret
                          exact ⟨by first | rfl | (simp [errW_none, errW_some] <;> rfl) | (simp [*, errW_none, errW_some] <;> rfl), by repeat (first | (with_reducible first | exact HB.out | apply below_alloc | apply pw_below_drewN | apply below_drew1) | exact HB.out)⟩
                        · rw [if_neg c34] at H
                          have c34b0 : ((bt t151 x6_1) == 12) = false := beq_eq_false_iff_ne.mpr c34
                          have c34b1 : ((bt t151 x6_1) != 12) = true := bne_iff_ne.mpr c34
                          by_cases c36 : (bt t151 x6_1) = 32
                          · rw [if_pos c36] at H
                            have c36b0 : ((bt t151 x6_1) == 32) = true := beq_iff_eq.mpr c36
                            have c36b1 : ((bt t151 x6_1) != 32) = false := bne_eq_false_iff_eq.mpr c36
                            clear c36
                            obtain rfl := Option.some.inj H
                            have p24 : 0 ≤ (x6_1 : Int) := of_decide_eq_true (by first | (with_reducible assumption) | assumption)
                            have q24 : x6_1 < (t151.size : Int) := of_decide_eq_true (by first | (with_reducible assumption) | assumption)
                            have hx24 := bt_at t151 x6_1
                            replace p24 := eq_true p24
                            replace q24 := eq_true q24
                            have p26 : 0 ≤ (x6_1 : Int) := of_decide_eq_true (by first | (with_reducible assumption) | assumption)
                            have q26 : x6_1 < (t151.size : Int) := of_decide_eq_true (by first | (with_reducible assumption) | assumption)
                            have hx26 := bt_at t151 x6_1
                            replace p26 := eq_true p26
                            replace q26 := eq_true q26
                            have p29 : 0 ≤ (x6_1 : Int) := of_decide_eq_true (by first | (with_reducible assumption) | assumption)
                            have q29 : x6_1 < (t151.size : Int) := of_decide_eq_true (by first | (with_reducible assumption) | assumption)
                            have hx29 := bt_at t151 x6_1
                            replace p29 := eq_true p29
                            replace q29 := eq_true q29
                            have p31 : 0 ≤ (x6_1 : Int) := of_decide_eq_true (by first | (with_reducible assumption) | assumption)
                            have q31 : x6_1 < (t151.size : Int) := of_decide_eq_true (by first | (with_reducible assumption) | assumption)
                            have hx31 := bt_at t151 x6_1
                            replace p31 := eq_true p31
                            replace q31 := eq_true q31
                            have p33 : 0 ≤ (x6_1 : Int) := of_decide_eq_true (by first | (with_reducible assumption) | assumption)
                            have q33 : x6_1 < (t151.size : Int) := of_decide_eq_true (by first | (with_reducible assumption) | assumption)
                            have hx33 := bt_at t151 x6_1
                            replace p33 := eq_true p33
                            replace q33 := eq_true q33
                            have p35 : 0 ≤ (x6_1 : Int) := of_decide_eq_true (by first | (with_reducible assumption) | assumption)
                            have q35 : x6_1 < (t151.size : Int) := of_decide_eq_true (by first | (with_reducible assumption) | assumption)
                            have hx35 := bt_at t151 x6_1
                            replace p35 := eq_true p35
                            replace q35 := eq_true q35
                            go_wp2
                            go_ret
                            exact ⟨by first | rfl | (simp [errW_none, errW_some] <;> rfl) | (simp [*, errW_none, errW_some] <;> rfl), by repeat (first | (with_reducible first | exact HB.out | apply below_alloc | apply pw_below_drewN | apply below_drew1) | exact HB.out)⟩
                          · rw [if_neg c36] at H
                            have c36b0 : ((bt t151 x6_1) == 32) = false := beq_eq_false_iff_ne.mpr c36
                            have c36b1 : ((bt t151 x6_1) != 32) = true := bne_iff_ne.mpr c36
                            have H' := Aside0.mk H
                            clear H
                            have p24 : 0 ≤ (x6_1 : Int) := of_decide_eq_true (by first | (with_reducible assumption) | assumption)
                            have q24 : x6_1 < (t151.size : Int) := of_decide_eq_true (by first | (with_reducible assumption) | assumption)
                            have hx24 := bt_at t151 x6_1
                            replace p24 := eq_true p24
                            replace q24 := eq_true q24
                            have p26 : 0 ≤ (x6_1 : Int) := of_decide_eq_true (by first | (with_reducible assumption) | assumption)
                            have q26 : x6_1 < (t151.size : Int) := of_decide_eq_true (by first | (with_reducible assumption) | assumption)
                            have hx26 := bt_at t151 x6_1
                            replace p26 := eq_true p26
                            replace q26 := eq_true q26
                            have p29 : 0 ≤ (x6_1 : Int) := of_decide_eq_true (by first | (with_reducible assumption) | assumption)
                            have q29 : x6_1 < (t151.size : Int) := of_decide_eq_true (by first | (with_reducible assumption) | assumption)
                            have hx29 := bt_at t151 x6_1
                            replace p29 := eq_true p29
                            replace q29 := eq_true q29
                            have p31 : 0 ≤ (x6_1 : Int) := of_decide_eq_true (by first | (with_reducible assumption) | assumption)
                            have q31 : x6_1 < (t151.size : Int) := of_decide_eq_true (by first | (with_reducible assumption) | assumption)
                            have hx31 := bt_at t151 x6_1
                            replace p31 := eq_true p31
                            replace q31 := eq_true q31
                            have p33 : 0 ≤ (x6_1 : Int) := of_decide_eq_true (by first | (with_reducible assumption) | assumption)
                            have q33 : x6_1 < (t151.size : Int) := of_decide_eq_true (by first | (with_reducible assumption) | assumption)
                            have hx33 := bt_at t151 x6_1
                            replace p33 := eq_true p33
                            replace q33 := eq_true q33
                            have p35 : 0 ≤ (x6_1 : Int) := of_decide_eq_true (by first | (with_reducible assumption) | assumption)
                            have q35 : x6_1 < (t151.size : Int) := of_decide_eq_true (by first | (with_reducible assumption) | assumption)
                            have hx35 := bt_at t151 x6_1
                            replace p35 := eq_true p35
                            replace q35 := eq_true q35
                            go_wp2
                            go_roundg k1
                            case measure => have := HK1.out; omega
                            case rel => exact ⟨(wrap64 (x6_1 + 1)), (by first | rfl | (simp; done) | (simp [*]; done)), H', ⟨by have := HK1.out; omega⟩, ⟨by repeat (first | (with_reducible first | exact HB.out | apply below_alloc | apply pw_below_drewN | apply below_drew1) | exact HB.out)⟩⟩
                  · rw [if_neg c28] at H
                    have c28b0 : (x6_1 == (wrap64 ((t151.size : Int) - 1))) = false := beq_eq_false_iff_ne.mpr c28
                    have c28b1 : (x6_1 != (wrap64 ((t151.size : Int) - 1))) = true := bne_iff_ne.mpr c28
                    have H' := Aside0.mk H
                    clear H
                    have p24 : 0 ≤ (x6_1 : Int) := of_decide_eq_true (by first | (with_reducible assumption) | assumption)
                    have q24 : x6_1 < (t151.size : Int) := of_decide_eq_true (by first | (with_reducible assumption) | assumption)
                    have hx24 := bt_at t151 x6_1
                    replace p24 := eq_true p24
                    replace q24 := eq_true q24
                    have p26 : 0 ≤ (x6_1 : Int) := of_decide_eq_true (by first | (with_reducible assumption) | assumption)
                    have q26 : x6_1 < (t151.size : Int) := of_decide_eq_true (by first | (with_reducible assumption) | assumption)
                    have hx26 := bt_at t151 x6_1
                    replace p26 := eq_true p26
                    replace q26 := eq_true q26
                    go_wp2
                    go_roundg k1
                    case measure => have := HK1.out; omega
                    case rel => exact ⟨(wrap64 (x6_1 + 1)), (by first | rfl | (simp; done) | (simp [*]; done)), H', ⟨by have := HK1.out; omega⟩, ⟨by repeat (first | (with_reducible first | exact HB.out | apply below_alloc | apply pw_below_drewN | apply below_drew1) | exact HB.out)⟩⟩
            · rw [if_neg c23] at H
              exact absurd H (by simp)
        · rw [if_neg c8] at H
          have c8b0 : decide (x6_1 < (t151.size : Int)) = false := decide_eq_false c8
          clear c8
          obtain rfl := Option.some.inj H
          go_wp2
          go_ret
          exact ⟨by first | rfl | (simp [errW_none, errW_some] <;> rfl) | (simp [*, errW_none, errW_some] <;> rfl), by repeat (first | (with_reducible first | exact HB.out | apply below_alloc | apply pw_below_drewN | apply below_drew1) | exact HB.out)⟩
  · replace c4 := Bool.eq_false_iff.mpr c4
    subst c4
    have H1 : (some t149) = some r := by rw [if_neg (show ¬ (false = true) by decide)] at H; exact H
    clear H
    have H := H1
    clear H1
    obtain rfl := Option.some.inj H
    go_enter Try.func10, Try.ntmps10
    go_wp2_with (first | ((with_reducible refine gate_callee (f := 25) rfl ?_); refine goesL_ (some 8) rfl rfl Try.func25 (by kernel_rfl) rfl #[] rfl (by (try simp only [List.map_toArray, List.map_cons, List.map_nil]); first | done | rfl | (simp only [List.length_drop, List.length_take]; rfl)) ?_; (with_reducible refine (flaillaw19_awake.calls  t149 _ A2.out).mono ?_); rintro e w37 ⟨rfl, hb⟩; refine ⟨_, rfl, ?_⟩; have n0_ := Aside0.mk (below_step (by repeat (first | (with_reducible first | exact HB.out | apply below_alloc | apply pw_below_drewN | apply below_drew1) | exact HB.out)) hb); clear HB; have HB := n0_; clear n0_; (try clear hb); (try clear hb2); (try clear hk); (try clear hi)) | ((with_reducible refine gate_callee (f := 26) rfl ?_); refine goesL_ (some 10) rfl rfl Try.func26 (by kernel_rfl) rfl #[.slice A0 l0.length c0] rfl (by (try simp only [List.map_toArray, List.map_cons, List.map_nil]); first | done | rfl | (simp only [List.length_drop, List.length_take]; rfl)) ?_; (with_reducible refine (flailref15_Few.calls k _ _ l0 false _ ?side1 ?side2 A3.out).mono ?_); (case side1 => repeat (first | exact (Kd.C_below HR0.out HB.out) | (with_reducible refine Kd.C_alloc ?_ _) | (with_reducible refine Kd.C_drewN ?_ _) | (with_reducible refine Kd.C_drew ?_))); (case side2 => exact HC0.out); rintro e w' ⟨rfl, ⟨nd, rfl⟩⟩; refine ⟨_, rfl, ?_⟩))
    go_ret
    exact ⟨by first | rfl | (simp [errW_none, errW_some] <;> rfl) | (simp [*, errW_none, errW_some] <;> rfl), by repeat (first | (with_reducible first | exact HB.out | apply below_alloc | apply pw_below_drewN | apply below_drew1) | exact HB.out)⟩

end Go.Proofs.Ytaejicolhliecaa.PRe

/- What is told has no byte 0 and no 13, and neither begins nor ends with a blank: of every tokens the law's call returns true: the law's walk over Render's contract. No condition. -/
set_option linter.unusedVariables false
namespace Go.Proofs.Ytaejicolhliecaa.HandRenderEdges
open Go.RowKit Go.Proofs.Ytaejicolhliecaa.PRe Go.Proofs.Ytaejicolhliecaa.Rend Go.Proofs.Ytaejicolhliecaa.HandFlowEdges Go.Proofs.YtaejicolhliecaaW.PrintWords Go.Proofs.YtaejicolhliecaaW.PrintLast
open Go.Proofs.Ytaejicolhliecaa.Flow (M isBlank)

theorem edge_tag {m : M} (h : HandFlowEdges.Edge m) (n : ByteArray) : HandFlowEdges.Edge (tagM n m) := by
  have h1 : HandFlowEdges.Edge (brM n m) := by
    unfold brM
    split
    · exact edge_line h
    · exact h
  unfold tagM
  split
  · exact h1
  · exact edge_brk h1 _
theorem edge_step {s : Pg} (h : HandFlowEdges.Edge s.m) (x : S47) : HandFlowEdges.Edge (s.step x).m := by
  unfold Pg.step
  split
  · unfold Pg.start
    split
    · exact h
    · split
      · exact edge_tag h _
      · exact h
  · split
    · unfold Pg.close
      split
      · exact h
      · split
        · exact edge_tag h _
        · exact h
    · split
      · unfold Pg.text
        split
        · exact edge_put _ _ h
        · exact h
      · exact h
theorem edge_pg : ∀ (l : List S47) {s : Pg}, HandFlowEdges.Edge s.m → HandFlowEdges.Edge (Pg.all l s).m
  | [], s, h => h
  | x :: l, s, h => edge_pg l (edge_step h x)

/-- What the law asks of a byte at a place. -/
structure Fine (S : ByteArray) : Prop where
  mid : ∀ i, (h : i < S.size) → S[i].toNat ≠ 0 ∧ S[i].toNat ≠ 13
  head : (h : 0 < S.size) → S[0].toNat ≠ 9 ∧ S[0].toNat ≠ 10 ∧ S[0].toNat ≠ 12 ∧ S[0].toNat ≠ 32
  last : ∀ i, (h : i < S.size) → i + 1 = S.size → S[i].toNat ≠ 9 ∧ S[i].toNat ≠ 10 ∧ S[i].toNat ≠ 12 ∧ S[i].toNat ≠ 32
theorem blank_ne {c : UInt8} (h : isBlank c = false) : c.toNat ≠ 9 ∧ c.toNat ≠ 10 ∧ c.toNat ≠ 12 ∧ c.toNat ≠ 32 := by
  rcases c with ⟨⟨n⟩⟩
  revert n
  decide +kernel
theorem nat_ne {c : UInt8} (h : c ≠ 0 ∧ c ≠ 13) : c.toNat ≠ 0 ∧ c.toNat ≠ 13 := by
  rcases c with ⟨⟨n⟩⟩
  revert n
  decide +kernel
theorem fine_of {m : M} (h : HandFlowEdges.Edge m) : Fine ⟨m.told.toArray⟩ := by
  have hd : (⟨m.told.toArray⟩ : ByteArray).data.toList = m.told := rfl
  refine ⟨fun i hi => ?_, fun hi => ?_, fun i hi e => ?_⟩
  · have := byte_mem ⟨m.told.toArray⟩ i hi
    rw [hd] at this
    exact nat_ne (h.told _ this)
  · have := byte_head ⟨m.told.toArray⟩ hi
    rw [hd] at this
    exact blank_ne (h.head _ this)
  · have := byte_last ⟨m.told.toArray⟩ (by omega)
    rw [hd] at this
    have h2 := blank_ne (h.last _ this)
    have e2 : (⟨m.told.toArray⟩ : ByteArray).size - 1 = i := by omega
    simp only [e2] at h2
    exact h2

theorem edges_l (S : ByteArray) (hS : Fine S) (hz : S.size ≤ 1000000000) (d : Nat) : ∀ (k i : Nat), S.size - i = d → i ≤ S.size → d < k → flaillaw19_RenderEdges.l0 k true S (i : Int) = some true := by
  induction d with
  | zero =>
    intro k i hd hi hk
    obtain ⟨k, rfl⟩ : ∃ m, k = m + 1 := ⟨k - 1, by omega⟩
    simp only [flaillaw19_RenderEdges.l0]
    rw [if_neg (by omega)]
  | succ d ih =>
    intro k i hd hi hk
    obtain ⟨k, rfl⟩ : ∃ m, k = m + 1 := ⟨k - 1, by omega⟩
    have hlt : i < S.size := by omega
    have hb : bt S (i : Int) = (S[i].toNat : Int) := by simp [bt, hlt]
    have hn := ih k (i + 1) (by omega) (by omega) (by omega)
    have hw : wrap64 ((i : Int) + 1) = ((i + 1 : Nat) : Int) := by unfold wrap64; omega
    have hw2 : wrap64 ((S.size : Int) - 1) = (S.size : Int) - 1 := by unfold wrap64; omega
    obtain ⟨m0, m13⟩ := hS.mid i hlt
    simp only [flaillaw19_RenderEdges.l0]
    rw [if_pos (by omega), hb, hw, hw2, hn]
    by_cases h0 : i = 0
    · subst h0
      obtain ⟨a, b, c, e⟩ := hS.head hlt
      rw [if_pos (by omega), if_pos (by omega), if_neg (by omega), if_neg (by omega), if_neg (by omega), if_neg (by omega), if_neg (by omega), if_neg (by omega)]
    · rw [if_neg (by omega), if_pos (by omega), if_neg (by omega), if_neg (by omega)]
      by_cases h1 : i + 1 = S.size
      · obtain ⟨a, b, c, e⟩ := hS.last i hlt h1
        rw [if_pos (by omega), if_neg (by omega), if_neg (by omega), if_neg (by omega), if_neg (by omega)]
      · rw [if_neg (by omega)]

theorem told_size (l : List S47) (h : fewB l = true) : (told l).length ≤ 1000000 := by
  have h1 := few_all h
  have h2 := all_size l Pg.none (fun x hx => by have := (h1.2 x hx).2; omega)
  have h3 : (told l).length ≤ (Pg.all l Pg.none).m.size := by unfold told M.size; omega
  have h0 : Pg.none.m.size = 0 := rfl
  omega

theorem edges_pure (l : List S47) (hwf : ∀ x ∈ l, (Lit.int .i64 x.f0).wf = true) : ∃ k, flaillaw19_RenderEdges.f k l = some true := by
  refine ⟨l.length + 1 + (told l).length + 1, ?_⟩
  have hfew : flailref15_Few.f (l.length + 1 + (told l).length + 1) l = some (fewB l) := by
    have h := few_at l
    have hm : ∀ j, flailref15_Few.f (l.length + 1 + j) l = some (fewB l) := fun j => by
      induction j with
      | zero => exact h
      | succ j ih => exact flailref15_Few.mono l (l.length + 1 + j) _ ih
    have := hm ((told l).length + 1)
    rw [← Nat.add_assoc] at this
    exact this
  unfold flaillaw19_RenderEdges.f
  rw [awake_at, Option.bind_some, hfew, Option.bind_some]
  cases hf : fewB l with
  | false => rfl
  | true =>
    have hfit := few_fits hf hwf
    have hE : Fine ⟨(told l).toArray⟩ := fine_of (m := (Pg.all l Pg.none).m) (edge_pg l (s := Pg.none) edge_none)
    have hz := told_size l hf
    have hsz : (⟨(told l).toArray⟩ : ByteArray).size = (told l).length := by simp [ByteArray.size]
    rw [if_pos rfl, render_eq hfit, Option.bind_some]
    have := edges_l ⟨(told l).toArray⟩ hE (by omega) (told l).length (l.length + 1 + (told l).length + 1) 0 (by omega) (by omega) (by omega)
    exact this

theorem edges_row (A : Option Addr) (len c : Nat) (w : World) (l : List S47) (hl : l.length = len) (hr : Kd.C k47 w A l.length l) (hc : len ≤ c) (hwf : ∀ x ∈ l, (Lit.int .i64 x.f0).wf = true) : Calls Try.prog 10 #[.slice A len c] w fun e w' => e = .returned (.bool true) ∧ Below w.heap.size w w' := by
  subst hl
  obtain ⟨k, hk⟩ := edges_pure l hwf
  exact flaillaw19_RenderEdges.calls k A c l true w hr hc hk
end Go.Proofs.Ytaejicolhliecaa.HandRenderEdges
