/- Several texts of this claim, laid together into one file. -/
import Derived.Test.YtaejicolhliecaaMPreA
import Derived.Test.YtaejicolhliecaaMPure
import Derived.Test.YtaejicolhliecaaMRendAt
import Derived.OpenShut
set_option linter.unusedSimpArgs false
set_option linter.unusedVariables false
/- Written by a program of this session out of the translation, for this claim: a part of the walk of what the law calls, or the row of the law. -/
namespace Go.Proofs.Ytaejicolhliecaa.PRe
open Go.RowKit Go.Proofs.YtaejicolhliecaaW.PrintWords Go.Proofs.YtaejicolhliecaaW.PrintLast Go.Proofs.YtaejicolhliecaaW.PrintMore
attribute [local go_sem] max2_int min2_int max_two min_two max_three min_three max_four min_four   -- for this text's walks alone
set_option linter.unusedVariables false
set_option linter.unusedSimpArgs false

/-! ### flaillaw19_RenderParts: function 12 -/
def flaillaw19_RenderParts.l0 : Nat → List (S47) → Int → Bool → List (S47) → Int → Option (Bool)
  | 0, _, _, _, _, _ => none
  | k + 1, x0, x1, x5, x7, x8 => if x8 < (x0.length : Int) then (if 0 ≤ x8 then (if ((rd_T47 x0 x8).f0) = 0 then (if (wrap64 ((((rd_T47 x0 x8).f2).size : Int) + 1)) = 0 then (none) else (if 0 ≤ (Int.tmod (wrap64 (x1)) (wrap64 ((((rd_T47 x0 x8).f2).size : Int) + 1))) then (if (Int.tmod (wrap64 (x1)) (wrap64 ((((rd_T47 x0 x8).f2).size : Int) + 1))) ≤ (((rd_T47 x0 x8).f2).size : Int) then ((some (([(⟨0, (⟨#[]⟩ : ByteArray), ((rd_T47 x0 x8).f2).extract 0 ((Int.tmod (wrap64 (x1)) (wrap64 ((((rd_T47 x0 x8).f2).size : Int) + 1))) : Int).toNat, ([] : List (S51)), false⟩ : S47), (⟨3, (⟨#[]⟩ : ByteArray), (⟨#[120]⟩ : ByteArray), ([] : List (S51)), false⟩ : S47), (⟨0, (⟨#[]⟩ : ByteArray), ((rd_T47 x0 x8).f2).extract ((Int.tmod (wrap64 (x1)) (wrap64 ((((rd_T47 x0 x8).f2).size : Int) + 1))) : Int).toNat ((rd_T47 x0 x8).f2).size, ([] : List (S51)), false⟩ : S47)] : List (S47)) : List (S47))).bind fun y158 => (if x7.length + y158.length < 1954687338268 then (flaillaw19_RenderParts.l0 k x0 x1 x5 (x7 ++ y158) (wrap64 (x8 + 1))) else (none))) else (none)) else (none))) else (if ((rd_T47 x0 x8).f0) = 1 then (if x7.length < 1954687338268 then (flaillaw19_RenderParts.l0 k x0 x1 x5 (x7 ++ [(⟨(rd_T47 x0 x8).f0, (rd_T47 x0 x8).f1, (⟨#[]⟩ : ByteArray), (([(⟨(⟨#[104, 105, 100, 100, 101, 110]⟩ : ByteArray), (⟨#[]⟩ : ByteArray)⟩ : S51)] : List (S51))), false⟩ : S47)]) (wrap64 (x8 + 1))) else (none)) else (if ((rd_T47 x0 x8).f0) = 2 then (if x7.length < 1954687338268 then (flaillaw19_RenderParts.l0 k x0 x1 x5 (x7 ++ [(⟨(rd_T47 x0 x8).f0, (rd_T47 x0 x8).f1, (⟨#[]⟩ : ByteArray), (([(⟨(⟨#[104, 105, 100, 100, 101, 110]⟩ : ByteArray), (⟨#[]⟩ : ByteArray)⟩ : S51)] : List (S51))), false⟩ : S47)]) (wrap64 (x8 + 1))) else (none)) else (flaillaw19_RenderParts.l0 k x0 x1 x5 x7 (wrap64 (x8 + 1)))))) else (none)) else (if x5 = true then ((render_Render.f x7).bind fun t154 => ((render_Render.f x0).bind fun t155 => (some (t154.toList == t155.toList)))) else (some false))
def flaillaw19_RenderParts.f (k : Nat) (l0 : List (S47)) (a1 : Int) : Option (Bool) := (flaillaw19_awake.f).bind fun t152 => ((flailref15_Few.f k l0).bind fun t153 => (if t153 = true then (flaillaw19_RenderParts.l0 k l0 a1 t152 ([] : List (S47)) 0) else (some t152)))
theorem flaillaw19_RenderParts.mono_l : ∀ k, (∀ y0 y1 y2 y3 y4, LeO (flaillaw19_RenderParts.l0 k y0 y1 y2 y3 y4) (flaillaw19_RenderParts.l0 (k + 1) y0 y1 y2 y3 y4))
  | 0 => fun _ _ _ _ _ r h => by simp [flaillaw19_RenderParts.l0] at h
  | k + 1 => by
    have ih0 := flaillaw19_RenderParts.mono_l k
    · intro y0 y1 y2 y3 y4
      unfold flaillaw19_RenderParts.l0
      repeat' first
      | (with_reducible exact ih0 _ _ _ _ _)
      | (with_reducible exact flailref15_Few.mono _ _)
      | (with_reducible exact LeO.refl _)
      | (with_reducible exact LeO.none _)
      | (with_reducible refine LeO.ite ?_ ?_)
      | (with_reducible refine LeO.bind ?_ (fun _ => ?_))
      | exact ih0 _ _ _ _ _
      | exact flailref15_Few.mono _ _
      | exact LeO.none _
      | refine LeO.ite ?_ ?_
      | refine LeO.bind ?_ (fun _ => ?_)
theorem flaillaw19_RenderParts.mono : ∀ a0 a1 k, LeO (flaillaw19_RenderParts.f k a0 a1) (flaillaw19_RenderParts.f (k + 1) a0 a1) := by
  intro a0 a1 k
  have ih0 := flaillaw19_RenderParts.mono_l k
  unfold flaillaw19_RenderParts.f
  repeat' first
      | (with_reducible exact ih0 _ _ _ _ _)
      | (with_reducible exact flailref15_Few.mono _ _)
      | (with_reducible exact LeO.refl _)
      | (with_reducible exact LeO.none _)
      | (with_reducible refine LeO.ite ?_ ?_)
      | (with_reducible refine LeO.bind ?_ (fun _ => ?_))
      | exact ih0 _ _ _ _ _
      | exact flailref15_Few.mono _ _
      | exact LeO.none _
      | refine LeO.ite ?_ ?_
      | refine LeO.bind ?_ (fun _ => ?_)
def flaillaw19_RenderParts.T12 : Bool × List (List Nat × List Nat) := (true, [([], []), ([], []), ([1], [1]), ([], []), ([2, 3], [2, 3]), ([4], [4]), ([], []), ([], []), ([7], [7]), ([], []), ([8, 9], [8, 9]), ([10], [10]), ([5, 6, 11], [5, 6, 11]), ([0, 12], [0, 12]), ([13, 13, 0, 1, 2, 3, 4, 5, 6, 7, 8, 9, 10, 11, 12, 13], [0, 13])])
def flaillaw19_RenderParts.B12 : List Nat := [0, 0, 2, 0, 14, 30, 0, 0, 128, 0, 896, 1920, 4094, 8191, 16383]
theorem flaillaw19_RenderParts.tab12 : rtab .any (opsOf Try.f12 12) = flaillaw19_RenderParts.T12 := by kernel_rfl
theorem flaillaw19_RenderParts.bits12 : waitsOk flaillaw19_RenderParts.T12.2 flaillaw19_RenderParts.B12 = true := by kernel_rfl
set_option maxHeartbeats 8000000 in
set_option maxRecDepth 100000 in
theorem flaillaw19_RenderParts.calls (k : Nat) (A0 : Option Addr) (c0 : Nat) (l0 : List (S47)) (a1 : Int) (r : Bool) (w : World) (hr0 : Kd.C k47 w A0 l0.length l0) (hc0 : l0.length ≤ c0) (h : flaillaw19_RenderParts.f k l0 a1 = some r) :
    Calls Try.prog 12 #[.slice A0 l0.length c0, .int .u8 a1] w fun e w' => e = .returned (.bool r) ∧ Below w.heap.size w w' := by
  have hu47 := Try.underlying47
  have hu51 := Try.underlying51
  have HR0 := Aside0.mk hr0
  have HC0 := Aside0.mk hc0
  clear hr0 hc0
  have HB := Aside0.mk (Below.refl w.heap.size w)
  have H : ((flaillaw19_awake.f).bind fun t152 => ((flailref15_Few.f k l0).bind fun t153 => (if t153 = true then (flaillaw19_RenderParts.l0 k l0 a1 t152 ([] : List (S47)) 0) else (some t152)))) = some r := h
  clear h
  replace H := Option.bind_eq_some_iff.mp H
  obtain ⟨t152, A30, H⟩ := H
  replace H : ((flailref15_Few.f k l0).bind fun t153 => (if t153 = true then (flaillaw19_RenderParts.l0 k l0 a1 t152 ([] : List (S47)) 0) else (some t152))) = some r := H
  have A3 := Aside0.mk A30
  clear A30
  replace H := Option.bind_eq_some_iff.mp H
  obtain ⟨t153, A40, H⟩ := H
  replace H : (if t153 = true then (flaillaw19_RenderParts.l0 k l0 a1 t152 ([] : List (S47)) 0) else (some t152)) = some r := H
  have A4 := Aside0.mk A40
  clear A40
  by_cases c5 : t153 = true
  · subst c5
    have H1 : (flaillaw19_RenderParts.l0 k l0 a1 t152 ([] : List (S47)) 0) = some r := by rw [if_pos rfl] at H; exact H
    clear H
    have H := H1
    clear H1
    have H' := Aside0.mk H
    clear H
    go_enter Try.func12, Try.ntmps12
    go_wp2_with (first | ((with_reducible refine gate_callee (f := 25) rfl ?_); refine goesL_ (some 11) rfl rfl Try.func25 (by kernel_rfl) rfl #[] rfl (by (try simp only [List.map_toArray, List.map_cons, List.map_nil]); first | done | rfl | (simp only [List.length_drop, List.length_take]; rfl)) ?_; (with_reducible refine (flaillaw19_awake.calls  t152 _ A3.out).mono ?_); rintro e w6 ⟨rfl, hb⟩; refine ⟨_, rfl, ?_⟩; have n0_ := Aside0.mk (below_step (by repeat (first | (with_reducible first | exact HB.out | apply below_alloc | apply pw_below_drewN | apply below_drew1) | exact HB.out)) hb); clear HB; have HB := n0_; clear n0_; (try clear hb); (try clear hb2); (try clear hk); (try clear hi)) | ((with_reducible refine gate_callee (f := 26) rfl ?_); refine goesL_ (some 13) rfl rfl Try.func26 (by kernel_rfl) rfl #[.slice A0 l0.length c0] rfl (by (try simp only [List.map_toArray, List.map_cons, List.map_nil]); first | done | rfl | (simp only [List.length_drop, List.length_take]; rfl)) ?_; (with_reducible refine (flailref15_Few.calls k _ _ l0 true _ ?side1 ?side2 A4.out).mono ?_); (case side1 => repeat (first | exact (Kd.C_below HR0.out HB.out) | (with_reducible refine Kd.C_alloc ?_ _) | (with_reducible refine Kd.C_drewN ?_ _) | (with_reducible refine Kd.C_drew ?_))); (case side2 => exact HC0.out); rintro e w' ⟨rfl, ⟨nd, rfl⟩⟩; refine ⟨_, rfl, ?_⟩))
    go_loopg [7, 8] k (fun kq v7 v8 w' => ∃ (x7_1 : List (S47)) (x8_1 : Int), v8 = .int .i64 x8_1 ∧ Aside0 (flaillaw19_RenderParts.l0 kq l0 a1 t152 x7_1 x8_1 = some r) ∧ Aside0 (kq ≤ k) ∧ Aside0 (Kd.N k47 47 w' w.heap.size (fun _ => True) v7 x7_1) ∧ Aside0 (Below w.heap.size w w'))
    case atStart => exact ⟨(([] : List (S47))), (0), (by first | rfl | (simp; done) | (simp [*]; done)), H', ⟨Nat.le_refl _⟩, ⟨by first | exact Kd.S_nil _ _ _ _ _ | exact Kd.N_nil _ _ _ _ _ | exact Kd.V_nil _ _ _ _ _ | exact Kd.Q_nil _ _ _ _ _ | exact Kd.R_nil _ _ _ _ _⟩, ⟨by repeat (first | (with_reducible first | exact HB.out | apply below_alloc | apply pw_below_drewN | apply below_drew1) | exact HB.out)⟩⟩
    case round =>
      clear H'
      try clear c1
      try clear c2
      try clear p2
      try clear c5
      obtain ⟨x7_1, x8_1, rfl, HA, HK1, HO_7, HB⟩ := hrel
      cases gk with
      | zero => exact absurd HA.out (by simp [flaillaw19_RenderParts.l0])
      | succ k1 =>
        have H := HA.out
        clear HA
        simp only [flaillaw19_RenderParts.l0] at H
        by_cases c7 : x8_1 < (l0.length : Int)
        · rw [if_pos c7] at H
          have c7b0 : decide (x8_1 < (l0.length : Int)) = true := decide_eq_true c7
          clear c7
          by_cases c8 : 0 ≤ x8_1
          · rw [if_pos c8] at H
            have c8b0 : decide (0 ≤ x8_1) = true := decide_eq_true c8
            clear c8
            by_cases c9 : ((rd_T47 l0 x8_1).f0) = 0
            · rw [if_pos c9] at H
              have c9b0 : (((rd_T47 l0 x8_1).f0) == 0) = true := beq_iff_eq.mpr c9
              have c9b1 : (((rd_T47 l0 x8_1).f0) != 0) = false := bne_eq_false_iff_eq.mpr c9
              clear c9
              by_cases c10 : (wrap64 ((((rd_T47 l0 x8_1).f2).size : Int) + 1)) = 0
              · rw [if_pos c10] at H
                exact absurd H (by simp)
              · rw [if_neg c10] at H
                have c10b0 : ((wrap64 ((((rd_T47 l0 x8_1).f2).size : Int) + 1)) == 0) = false := beq_eq_false_iff_ne.mpr c10
                have c10b1 : ((wrap64 ((((rd_T47 l0 x8_1).f2).size : Int) + 1)) != 0) = true := bne_iff_ne.mpr c10
                obtain ⟨ji11, hji11⟩ : ∃ j_ : Int, (Int.tmod (wrap64 (a1)) (wrap64 ((((rd_T47 l0 x8_1).f2).size : Int) + 1))) = j_ := ⟨_, rfl⟩
                replace H : (if 0 ≤ (ji11) then (if (ji11) ≤ (((rd_T47 l0 x8_1).f2).size : Int) then ((some (([(⟨0, (⟨#[]⟩ : ByteArray), ((rd_T47 l0 x8_1).f2).extract 0 ((ji11) : Int).toNat, ([] : List (S51)), false⟩ : S47), (⟨3, (⟨#[]⟩ : ByteArray), (⟨#[120]⟩ : ByteArray), ([] : List (S51)), false⟩ : S47), (⟨0, (⟨#[]⟩ : ByteArray), ((rd_T47 l0 x8_1).f2).extract ((ji11) : Int).toNat ((rd_T47 l0 x8_1).f2).size, ([] : List (S51)), false⟩ : S47)] : List (S47)) : List (S47))).bind fun y158 => (if x7_1.length + y158.length < 1954687338268 then (flaillaw19_RenderParts.l0 k1 l0 a1 t152 (x7_1 ++ y158) (wrap64 (x8_1 + 1))) else (none))) else (none)) else (none)) = some r := by first | (rw [hji11] at H; exact H) | (simp only [hji11] at H ⊢; exact H)
                by_cases c12 : 0 ≤ (ji11)
                · rw [if_pos c12] at H
                  have c12b0 := eq_true c12
                  have c12b1 : decide (0 ≤ (ji11)) = true := decide_eq_true c12
                  clear c12
                  by_cases c13 : (ji11) ≤ (((rd_T47 l0 x8_1).f2).size : Int)
                  · rw [if_pos c13] at H
                    have c13b0 := eq_true c13
                    have c13b1 : decide ((ji11) ≤ (((rd_T47 l0 x8_1).f2).size : Int)) = true := decide_eq_true c13
                    clear c13
                    have c14b0 := eq_true (of_decide_eq_true (by first | (with_reducible assumption) | assumption) : 0 ≤ (ji11))
                    have c15b0 := eq_true (of_decide_eq_true (by first | (with_reducible assumption) | assumption) : (ji11) ≤ (((rd_T47 l0 x8_1).f2).size : Int))
                    obtain ⟨y158, hy158⟩ : ∃ y_ : List (S47), y_ = (([(⟨0, (⟨#[]⟩ : ByteArray), ((rd_T47 l0 x8_1).f2).extract 0 ((ji11) : Int).toNat, ([] : List (S51)), false⟩ : S47), (⟨3, (⟨#[]⟩ : ByteArray), (⟨#[120]⟩ : ByteArray), ([] : List (S51)), false⟩ : S47), (⟨0, (⟨#[]⟩ : ByteArray), ((rd_T47 l0 x8_1).f2).extract ((ji11) : Int).toNat ((rd_T47 l0 x8_1).f2).size, ([] : List (S51)), false⟩ : S47)] : List (S47))) := ⟨_, rfl⟩
                    replace H : (if x7_1.length + y158.length < 1954687338268 then (flaillaw19_RenderParts.l0 k1 l0 a1 t152 (x7_1 ++ y158) (wrap64 (x8_1 + 1))) else (none)) = some r := by first | (rw [hy158]; with_reducible exact H) | (have H2_ := (Option.bind_some _ _).symm.trans H; rw [hy158]; with_reducible exact H2_) | (have H2_ := (Option.bind_some _ _).symm.trans H; with_reducible exact H2_) | with_reducible exact H | (rw [hy158]; exact H) | exact H
                    have Ny158 := Aside0.mk hy158
                    clear hy158
                    by_cases c16 : x7_1.length + y158.length < 1954687338268
                    · rw [if_pos c16] at H
                      have LMc16 := Aside0.mk c16
                      clear c16
                      obtain ⟨y161, hy161⟩ : ∃ y_ : List (S47), y_ = (x7_1 ++ y158) := ⟨_, rfl⟩
                      replace H : (flaillaw19_RenderParts.l0 k1 l0 a1 t152 y161 (wrap64 (x8_1 + 1))) = some r := by first | (rw [hy161]; with_reducible exact H) | (have H2_ := (Option.bind_some _ _).symm.trans H; rw [hy161]; with_reducible exact H2_) | (have H2_ := (Option.bind_some _ _).symm.trans H; with_reducible exact H2_) | with_reducible exact H | (rw [hy161]; exact H) | exact H
                      have Ny161 := Aside0.mk hy161
                      clear hy161
                      have H' := Aside0.mk H
                      clear H
                      have p156 : 0 ≤ (x8_1 : Int) := of_decide_eq_true (by first | (with_reducible assumption) | assumption)
                      have q156 : x8_1 < (l0.length : Int) := of_decide_eq_true (by first | (with_reducible assumption) | assumption)
                      obtain ⟨ad156, A156_3, c156_3, e156, hx156_0, hx156_1, hx156_2, hx156_3, hx156_4, hl156_3, hi156_3⟩ := at_T47 HR0.out x8_1 p156 q156
                      cases e156
                      replace hx156_0 := (HB.out.cell (World.block_lt_of_cell? w _ hx156_0)).trans hx156_0
                      replace hx156_1 := (HB.out.cell (World.block_lt_of_cell? w _ hx156_1)).trans hx156_1
                      replace hx156_2 := (HB.out.cell (World.block_lt_of_cell? w _ hx156_2)).trans hx156_2
                      replace hx156_3 := (HB.out.cell (World.block_lt_of_cell? w _ hx156_3)).trans hx156_3
                      replace hx156_4 := (HB.out.cell (World.block_lt_of_cell? w _ hx156_4)).trans hx156_4
                      have HR156_3 := Aside0.mk hi156_3
                      have HC156_3 := Aside0.mk hl156_3
                      clear hi156_3 hl156_3
                      replace p156 := eq_true p156
                      replace q156 := eq_true q156
                      try go_wp2_with (first | ((with_reducible refine gate_dst (N := 9) rfl ?_); refine box_event ?hg (N := 9) ?hd (cs := #[.int .i64 0, .string (⟨#[]⟩ : ByteArray), .string (⟨#[]⟩ : ByteArray), .slice none 0 0, .bool false]) (t := 47) ?hr ?_; (case hd => rfl); (case hg => rfl); (case hr => first | (go_simp; done) | (go_simp; rfl)); intro gb157 hg w17 hbox hb; have n0_ := Aside0.mk (Kd.N_below (Kd.N_elderB (by (with_reducible repeat (first | apply Kd.N_alloc | apply Kd.N_drewN | apply Kd.N_drew)); exact HO_7.out) gb157 (Nat.le_of_eq hg.symm)) hb); have n1_ := Aside0.mk (below_step (by repeat (first | (with_reducible first | exact HB.out | apply below_alloc | apply pw_below_drewN | apply below_drew1) | exact HB.out)) hb); have n2_ := Aside0.mk (hbox); have n3_ := Aside0.mk ((by rw [hg]; exact (below_size (by repeat (first | (with_reducible first | exact HB.out | apply below_alloc | apply pw_below_drewN | apply below_drew1) | exact HB.out))) : w.heap.size ≤ gb157)); have n4_ := Aside0.mk ((by rw [hg]; exact (below_size (by repeat (first | (with_reducible first | exact HB.out | apply below_alloc | apply pw_below_drewN | apply below_drew1) | exact HB.out))) : w.heap.size ≤ gb157)); clear HO_7; clear HB; have HO_7 := n0_; have HB := n1_; have BK157 := n2_; have GW157 := n3_; have GE157 := n4_; clear n0_ n1_ n2_ n3_ n4_; clear hb hbox hg; have hcz18_0 : w17.cell? ⟨gb157, 0, none⟩ = some (.int .i64 0) := (blk_cell BK157.out 0).trans rfl; have hcz18_1 : w17.cell? ⟨gb157, 1, none⟩ = some (.string (⟨#[]⟩ : ByteArray)) := (blk_cell BK157.out 1).trans rfl; have hcz18_2 : w17.cell? ⟨gb157, 2, none⟩ = some (.string (⟨#[]⟩ : ByteArray)) := (blk_cell BK157.out 2).trans rfl; have hcz18_3 : w17.cell? ⟨gb157, 3, none⟩ = some (.slice none 0 0) := (blk_cell BK157.out 3).trans rfl; have hcz18_4 : w17.cell? ⟨gb157, 4, none⟩ = some (.bool false) := (blk_cell BK157.out 4).trans rfl; have hfz18_0 := blk_frozen BK157.out 0; have hfz18_1 := blk_frozen BK157.out 1; have hfz18_2 := blk_frozen BK157.out 2; have hfz18_3 := blk_frozen BK157.out 3; have hfz18_4 := blk_frozen BK157.out 4))
                      have n0_ : Aside0 (Kd.N k47 47 (((((w17.setCell ⟨gb157, 0, none⟩ (.int .i64 ((rd_T47 l0 x8_1).f0))).setCell ⟨gb157, 1, none⟩ (.string ((rd_T47 l0 x8_1).f1))).setCell ⟨gb157, 2, none⟩ (.string ((rd_T47 l0 x8_1).f2))).setCell ⟨gb157, 3, none⟩ (.slice A156_3 ((rd_T47 l0 x8_1).f3).length c156_3)).setCell ⟨gb157, 4, none⟩ (.bool ((rd_T47 l0 x8_1).f4))) w.heap.size (fun k_ => k_ ≠ gb157) u7 x7_1) := ⟨by (with_reducible repeat (first | apply Kd.N_alloc | apply Kd.N_drewN | apply Kd.N_drew)); exact Kd.N_mono (Kd.N_far (p := ⟨gb157, 4, none⟩) (Kd.N_far (p := ⟨gb157, 3, none⟩) (Kd.N_far (p := ⟨gb157, 2, none⟩) (Kd.N_far (p := ⟨gb157, 1, none⟩) (Kd.N_far (p := ⟨gb157, 0, none⟩) (Kd.N_mono HO_7.out (fun k_ hk => (⟨hk, hk.2⟩ : _ ∧ k_ ≠ gb157))) (fun _ hk => hk.2) (.int .i64 ((rd_T47 l0 x8_1).f0))) (fun _ hk => hk.2) (.string ((rd_T47 l0 x8_1).f1))) (fun _ hk => hk.2) (.string ((rd_T47 l0 x8_1).f2))) (fun _ hk => hk.2) (.slice A156_3 ((rd_T47 l0 x8_1).f3).length c156_3)) (fun _ hk => hk.2) (.bool ((rd_T47 l0 x8_1).f4))) (fun _ hk => hk.1.2)⟩
                      have n1_ : Aside0 ((((((w17.setCell ⟨gb157, 0, none⟩ (.int .i64 ((rd_T47 l0 x8_1).f0))).setCell ⟨gb157, 1, none⟩ (.string ((rd_T47 l0 x8_1).f1))).setCell ⟨gb157, 2, none⟩ (.string ((rd_T47 l0 x8_1).f2))).setCell ⟨gb157, 3, none⟩ (.slice A156_3 ((rd_T47 l0 x8_1).f3).length c156_3)).setCell ⟨gb157, 4, none⟩ (.bool ((rd_T47 l0 x8_1).f4))).heap[gb157]? = some (.cells #[.int .i64 ((rd_T47 l0 x8_1).f0), .string ((rd_T47 l0 x8_1).f1), .string ((rd_T47 l0 x8_1).f2), .slice A156_3 ((rd_T47 l0 x8_1).f3).length c156_3, .bool ((rd_T47 l0 x8_1).f4)] 47 (0, 0))) := ⟨by (with_reducible repeat (first | refine blk_drewN ?_ _ | refine blk_drew ?_ | refine blk_alloc ?_ _)); refine blk_put (cs := #[.int .i64 ((rd_T47 l0 x8_1).f0), .string ((rd_T47 l0 x8_1).f1), .string ((rd_T47 l0 x8_1).f2), .slice A156_3 ((rd_T47 l0 x8_1).f3).length c156_3, .bool false]) ?_ 4 _ rfl; (with_reducible repeat (first | refine blk_drewN ?_ _ | refine blk_drew ?_ | refine blk_alloc ?_ _)); refine blk_put (cs := #[.int .i64 ((rd_T47 l0 x8_1).f0), .string ((rd_T47 l0 x8_1).f1), .string ((rd_T47 l0 x8_1).f2), .slice none 0 0, .bool false]) ?_ 3 _ rfl; (with_reducible repeat (first | refine blk_drewN ?_ _ | refine blk_drew ?_ | refine blk_alloc ?_ _)); refine blk_put (cs := #[.int .i64 ((rd_T47 l0 x8_1).f0), .string ((rd_T47 l0 x8_1).f1), .string (⟨#[]⟩ : ByteArray), .slice none 0 0, .bool false]) ?_ 2 _ rfl; (with_reducible repeat (first | refine blk_drewN ?_ _ | refine blk_drew ?_ | refine blk_alloc ?_ _)); refine blk_put (cs := #[.int .i64 ((rd_T47 l0 x8_1).f0), .string (⟨#[]⟩ : ByteArray), .string (⟨#[]⟩ : ByteArray), .slice none 0 0, .bool false]) ?_ 1 _ rfl; (with_reducible repeat (first | refine blk_drewN ?_ _ | refine blk_drew ?_ | refine blk_alloc ?_ _)); refine blk_put (cs := #[.int .i64 0, .string (⟨#[]⟩ : ByteArray), .string (⟨#[]⟩ : ByteArray), .slice none 0 0, .bool false]) ?_ 0 _ rfl; (with_reducible repeat (first | refine blk_drewN ?_ _ | refine blk_drew ?_ | refine blk_alloc ?_ _)); exact BK157.out⟩
                      have n2_ : Aside0 (Below w.heap.size w (((((w17.setCell ⟨gb157, 0, none⟩ (.int .i64 ((rd_T47 l0 x8_1).f0))).setCell ⟨gb157, 1, none⟩ (.string ((rd_T47 l0 x8_1).f1))).setCell ⟨gb157, 2, none⟩ (.string ((rd_T47 l0 x8_1).f2))).setCell ⟨gb157, 3, none⟩ (.slice A156_3 ((rd_T47 l0 x8_1).f3).length c156_3)).setCell ⟨gb157, 4, none⟩ (.bool ((rd_T47 l0 x8_1).f4)))) := ⟨by repeat (first | (with_reducible first | exact HB.out | apply below_alloc | apply pw_below_drewN | apply below_drew1 | refine below_set ?_ GE157.out) | exact HB.out)⟩
                      (try clear HO_7)
                      (try clear BK157)
                      (try clear HB)
                      generalize (((((w17.setCell ⟨gb157, 0, none⟩ (.int .i64 ((rd_T47 l0 x8_1).f0))).setCell ⟨gb157, 1, none⟩ (.string ((rd_T47 l0 x8_1).f1))).setCell ⟨gb157, 2, none⟩ (.string ((rd_T47 l0 x8_1).f2))).setCell ⟨gb157, 3, none⟩ (.slice A156_3 ((rd_T47 l0 x8_1).f3).length c156_3)).setCell ⟨gb157, 4, none⟩ (.bool ((rd_T47 l0 x8_1).f4))) = w19 at n0_ n1_ n2_ ⊢
                      have HO_7 := n0_
                      have BK157 := n1_
                      have HB := n2_
                      clear n0_ n1_ n2_
                      have n0_ := Aside0.mk (Kd.N_drew HO_7.out)
                      have n1_ := Aside0.mk (blk_drew BK157.out)
                      have n2_ := Aside0.mk (below_drew1 HB.out)
                      clear HO_7
                      clear BK157
                      clear HB
                      have HO_7 := n0_
                      have BK157 := n1_
                      have HB := n2_
                      clear n0_ n1_ n2_
                      refine start_ (n := 15) (S := fun w' => w'.cell? ⟨gb157, 0, none⟩ = some (.int .i64 ((rd_T47 l0 x8_1).f0)) ∧ w'.cell? ⟨gb157, 1, none⟩ = some (.string ((rd_T47 l0 x8_1).f1)) ∧ w'.cell? ⟨gb157, 2, none⟩ = some (.string ((rd_T47 l0 x8_1).f2)) ∧ w'.cell? ⟨gb157, 3, none⟩ = some (.slice A156_3 ((rd_T47 l0 x8_1).f3).length c156_3) ∧ w'.cell? ⟨gb157, 4, none⟩ = some (.bool ((rd_T47 l0 x8_1).f4))) (ds := []) #[false, false, false, false, false, false, false, false, false, false, false, false, false, false, false] (by kernel_rfl) rfl rfl ⟨(blk_cell BK157.out 0).trans rfl, (blk_cell BK157.out 1).trans rfl, (blk_cell BK157.out 2).trans rfl, (blk_cell BK157.out 3).trans rfl, (blk_cell BK157.out 4).trans rfl⟩ (fun hHeld => ?_); refine with_tabW flaillaw19_RenderParts.tab12 flaillaw19_RenderParts.bits12 (fun HT_ HW_ => ?_)
                      generalize w19.drew = w20 at HO_7 BK157 HB hHeld ⊢
                      refine pure_ (i := 0) (N := some 37) (v := ?_) (a' := ?_) #[true, false, false, false, false, false, false, false, false, false, false, false, false, false, false] rfl rfl (any_of HT_.out (by kernel_rfl)) (fun _ _ _ h => h) (Or.inl ⟨by rfl, ?_⟩) ?_ ?_
                      rotate_left
                      · intro w'
                        go_simp
                        with_reducible rfl
                      rotate_left
                      · simp only [Act.put, List.setIfInBounds_toArray, List.set_cons_zero, List.set_cons_succ, i64_w, i32_w]
                        rfl
                      refine pure_ (i := 1) (N := some 38) (v := ?_) (a' := ?_) #[true, true, false, false, false, false, false, false, false, false, false, false, false, false, false] rfl rfl (any_of HT_.out (by kernel_rfl)) (fun _ _ _ h => h) (Or.inl ⟨by rfl, ?_⟩) ?_ ?_
                      rotate_left
                      · intro w'
                        go_simp
                        with_reducible rfl
                      rotate_left
                      · simp only [Act.put, List.setIfInBounds_toArray, List.set_cons_zero, List.set_cons_succ, i64_w, i32_w]
                        rfl
                      refine pure_ (i := 3) (N := some 40) (v := ?_) (a' := ?_) #[true, true, false, true, false, false, false, false, false, false, false, false, false, false, false] rfl rfl (any_of HT_.out (by kernel_rfl)) (fun _ _ _ h => h) (Or.inl ⟨by rfl, ?_⟩) ?_ ?_
                      rotate_left
                      · intro w'
                        go_simp
                        with_reducible rfl
                      rotate_left
                      · simp only [Act.put, List.setIfInBounds_toArray, List.set_cons_zero, List.set_cons_succ, i64_w, i32_w]
                        rfl
                      refine pure_ (i := 6) (N := some 43) (v := ?_) (a' := ?_) #[true, true, false, true, false, false, true, false, false, false, false, false, false, false, false] rfl rfl (any_of HT_.out (by kernel_rfl)) (fun _ _ _ h => h) (Or.inl ⟨by rfl, ?_⟩) ?_ ?_
                      rotate_left
                      · intro w'
                        go_simp
                        with_reducible rfl
                      rotate_left
                      · simp only [Act.put, List.setIfInBounds_toArray, List.set_cons_zero, List.set_cons_succ, i64_w, i32_w]
                        rfl
                      refine pure_ (i := 7) (N := some 44) (v := ?_) (a' := ?_) #[true, true, false, true, false, false, true, true, false, false, false, false, false, false, false] rfl rfl (any_of HT_.out (by kernel_rfl)) (fun _ _ _ h => h) (Or.inl ⟨by rfl, ?_⟩) ?_ ?_
                      rotate_left
                      · intro w'
                        go_simp
                        with_reducible rfl
                      rotate_left
                      · simp only [Act.put, List.setIfInBounds_toArray, List.set_cons_zero, List.set_cons_succ, i64_w, i32_w]
                        rfl
                      refine pure_ (i := 9) (N := some 46) (v := ?_) (a' := ?_) #[true, true, false, true, false, false, true, true, false, true, false, false, false, false, false] rfl rfl (any_of HT_.out (by kernel_rfl)) (fun _ _ _ h => h) (Or.inl ⟨by rfl, ?_⟩) ?_ ?_
                      rotate_left
                      · intro w'
                        go_simp
                        with_reducible rfl
                      rotate_left
                      · simp only [Act.put, List.setIfInBounds_toArray, List.set_cons_zero, List.set_cons_succ, i64_w, i32_w]
                        rfl
                      refine take_ (i := 2) (N := some 39) (v := ?_) (a' := ?_) #[true, true, true, true, false, false, true, true, false, true, false, false, false, false, false] rfl rfl (take_ofW HT_.out HW_.out (by kernel_rfl)) (fun _ _ _ h => h) (Or.inl ⟨by rfl, ?_⟩) hHeld ?_ ?_
                      rotate_left
                      · rintro w' ⟨s0, s1, s2, s3, s4⟩
                        go_simp
                        with_reducible rfl
                      rotate_left
                      · simp only [Act.put, List.setIfInBounds_toArray, List.set_cons_zero, List.set_cons_succ, i64_w, i32_w]
                        rfl
                      refine pure_ (i := 4) (N := some 41) (v := ?_) (a' := ?_) #[true, true, true, true, true, false, true, true, false, true, false, false, false, false, false] rfl rfl (any_of HT_.out (by kernel_rfl)) (fun _ _ _ h => h) (Or.inl ⟨by rfl, ?_⟩) ?_ ?_
                      rotate_left
                      · intro w'
                        go_simp
                        with_reducible rfl
                      rotate_left
                      · simp only [Act.put, List.setIfInBounds_toArray, List.set_cons_zero, List.set_cons_succ, i64_w, i32_w]
                        rfl
                      refine pure_ (i := 5) (N := some 42) (v := ?_) (a' := ?_) #[true, true, true, true, true, true, true, true, false, true, false, false, false, false, false] rfl rfl (any_of HT_.out (by kernel_rfl)) (fun _ _ _ h => h) (Or.inl ⟨by rfl, ?_⟩) ?_ ?_
                      rotate_left
                      · intro w'
                        go_simp
                        with_reducible rfl
                      rotate_left
                      · simp only [Act.put, List.setIfInBounds_toArray, List.set_cons_zero, List.set_cons_succ, i64_w, i32_w]
                        rfl
                      refine take_ (i := 8) (N := some 45) (v := ?_) (a' := ?_) #[true, true, true, true, true, true, true, true, true, true, false, false, false, false, false] rfl rfl (take_ofW HT_.out HW_.out (by kernel_rfl)) (fun _ _ _ h => h) (Or.inl ⟨by rfl, ?_⟩) hHeld ?_ ?_
                      rotate_left
                      · rintro w' ⟨s0, s1, s2, s3, s4⟩
                        go_simp
                        with_reducible rfl
                      rotate_left
                      · simp only [Act.put, List.setIfInBounds_toArray, List.set_cons_zero, List.set_cons_succ, i64_w, i32_w]
                        rfl
                      refine pure_ (i := 10) (N := some 47) (v := ?_) (a' := ?_) #[true, true, true, true, true, true, true, true, true, true, true, false, false, false, false] rfl rfl (any_of HT_.out (by kernel_rfl)) (fun _ _ _ h => h) (Or.inl ⟨by rfl, ?_⟩) ?_ ?_
                      rotate_left
                      · intro w'
                        go_simp
                        with_reducible rfl
                      rotate_left
                      · simp only [Act.put, List.setIfInBounds_toArray, List.set_cons_zero, List.set_cons_succ, i64_w, i32_w]
                        rfl
                      refine pure_ (i := 11) (N := some 48) (v := ?_) (a' := ?_) #[true, true, true, true, true, true, true, true, true, true, true, true, false, false, false] rfl rfl (any_of HT_.out (by kernel_rfl)) (fun _ _ _ h => h) (Or.inl ⟨by rfl, ?_⟩) ?_ ?_
                      rotate_left
                      · intro w'
                        go_simp
                        with_reducible rfl
                      rotate_left
                      · simp only [Act.put, List.setIfInBounds_toArray, List.set_cons_zero, List.set_cons_succ, i64_w, i32_w]
                        rfl
                      refine one_ (i := 12) (N := some 49) #[true, true, true, true, true, true, true, true, true, true, true, true, true, false, false] rfl rfl (one_of HT_.out (by kernel_rfl)) (by decide) (fun K hK => ?_)
                      refine Kd.N_lit_step k47 _ 47 ?hg (N' := 49) ?hd (xs := ([(⟨0, (⟨#[]⟩ : ByteArray), ((rd_T47 l0 x8_1).f2).extract 0 ((ji11) : Int).toNat, ([] : List (S51)), false⟩ : S47), (⟨3, (⟨#[]⟩ : ByteArray), (⟨#[120]⟩ : ByteArray), ([] : List (S51)), false⟩ : S47), (⟨0, (⟨#[]⟩ : ByteArray), ((rd_T47 l0 x8_1).f2).extract ((ji11) : Int).toNat ((rd_T47 l0 x8_1).f2).size, ([] : List (S51)), false⟩ : S47)] : List (S47))) (inner := [.int .i64 0, .string (⟨#[]⟩ : ByteArray), .string (((rd_T47 l0 x8_1).f2).extract 0 ((ji11) : Int).toNat), .slice none 0 0, .bool false, .int .i64 3, .string (⟨#[]⟩ : ByteArray), .string (⟨#[120]⟩ : ByteArray), .slice none 0 0, .bool false, .int .i64 0, .string (⟨#[]⟩ : ByteArray), .string (((rd_T47 l0 x8_1).f2).extract ((ji11) : Int).toNat ((rd_T47 l0 x8_1).f2).size), .slice none 0 0, .bool false]) (ok := (fun k_ => some k_ ≠ (u7 : Value).ownBlock ∧ k_ ≠ gb157)) (okp := (fun k_ => some k_ ≠ (u7 : Value).ownBlock ∧ k_ ≠ gb157)) ?hr ?hp (fun _ hk => hk) ((show ∀ k_, w20.heap.size ≤ k_ → (fun k_ => some k_ ≠ (u7 : Value).ownBlock ∧ k_ ≠ gb157) k_ from fun k_ hk => ⟨Kd.fresh' (Kd.N_lt (by (with_reducible repeat (first | apply Kd.N_alloc | apply Kd.N_drewN | apply Kd.N_drew)); exact HO_7.out)) k_ hk, Kd.freshB (g := gb157) (o := .cells #[.int .i64 ((rd_T47 l0 x8_1).f0), .string ((rd_T47 l0 x8_1).f1), .string ((rd_T47 l0 x8_1).f2), .slice A156_3 ((rd_T47 l0 x8_1).f3).length c156_3, .bool ((rd_T47 l0 x8_1).f4)] 47 (0, 0)) (by (with_reducible repeat (first | refine blk_drewN ?_ _ | refine blk_drew ?_ | refine blk_alloc ?_ _)); exact BK157.out) k_ hk⟩) _ (Nat.le_refl _)) (Below.refl _ _) (Nat.le_refl _) (by simp) ?_; (case hd => rfl); (case hg => rfl); (case hr => first | (go_simp; done) | (go_simp; rfl)); (case hp => exact (Reps.c5 (show Kd.FK k47 _ _ (⟨0, (⟨#[]⟩ : ByteArray), ((rd_T47 l0 x8_1).f2).extract 0 ((ji11) : Int).toNat, ([] : List (S51)), false⟩ : S47) [.int .i64 0, .string (⟨#[]⟩ : ByteArray), .string (((rd_T47 l0 x8_1).f2).extract 0 ((ji11) : Int).toNat), .slice none 0 0, .bool false] from (k47_mkF _ _ (⟨0, (⟨#[]⟩ : ByteArray), ((rd_T47 l0 x8_1).f2).extract 0 ((ji11) : Int).toNat, ([] : List (S51)), false⟩ : S47) (Nat.le_refl _) (Kd.F_nil _ _ _))) (Reps.c5 (show Kd.FK k47 _ _ (⟨3, (⟨#[]⟩ : ByteArray), (⟨#[120]⟩ : ByteArray), ([] : List (S51)), false⟩ : S47) [.int .i64 3, .string (⟨#[]⟩ : ByteArray), .string (⟨#[120]⟩ : ByteArray), .slice none 0 0, .bool false] from (k47_mkF _ _ (⟨3, (⟨#[]⟩ : ByteArray), (⟨#[120]⟩ : ByteArray), ([] : List (S51)), false⟩ : S47) (Nat.le_refl _) (Kd.F_nil _ _ _))) (Reps.c5 (show Kd.FK k47 _ _ (⟨0, (⟨#[]⟩ : ByteArray), ((rd_T47 l0 x8_1).f2).extract ((ji11) : Int).toNat ((rd_T47 l0 x8_1).f2).size, ([] : List (S51)), false⟩ : S47) [.int .i64 0, .string (⟨#[]⟩ : ByteArray), .string (((rd_T47 l0 x8_1).f2).extract ((ji11) : Int).toNat ((rd_T47 l0 x8_1).f2).size), .slice none 0 0, .bool false] from (k47_mkF _ _ (⟨0, (⟨#[]⟩ : ByteArray), ((rd_T47 l0 x8_1).f2).extract ((ji11) : Int).toNat ((rd_T47 l0 x8_1).f2).size, ([] : List (S51)), false⟩ : S47) (Nat.le_refl _) (Kd.F_nil _ _ _))) (Reps.none _ _)))))
                      intro v159 w21 ho22 hb hg_ hnew_
                      clear hg_ hnew_
                      (first | rw [← Ny158.out] at ho22 | (simp only [Int.reduceToNat] at ho22; rw [← Ny158.out] at ho22))
                      have n0_ := Aside0.mk (Kd.N_elder' (by (with_reducible repeat (first | apply Kd.N_alloc | apply Kd.N_drewN | apply Kd.N_drew)); exact HO_7.out) (Kd.N_base ho22) hb)
                      have n1_ := Aside0.mk (Kd.N_lower ho22 (below_size (by repeat (first | (with_reducible first | exact HB.out | apply below_alloc | apply pw_below_drewN | apply below_drew1 | refine below_set ?_ GE157.out) | exact HB.out))))
                      have n2_ := Aside0.mk (blk_below (g := gb157) (o := .cells #[.int .i64 ((rd_T47 l0 x8_1).f0), .string ((rd_T47 l0 x8_1).f1), .string ((rd_T47 l0 x8_1).f2), .slice A156_3 ((rd_T47 l0 x8_1).f3).length c156_3, .bool ((rd_T47 l0 x8_1).f4)] 47 (0, 0)) (by (with_reducible repeat (first | refine blk_drewN ?_ _ | refine blk_drew ?_ | refine blk_alloc ?_ _)); exact BK157.out) hb)
                      have n3_ := Aside0.mk (below_step (by repeat (first | (with_reducible first | exact HB.out | apply below_alloc | apply pw_below_drewN | apply below_drew1 | refine below_set ?_ GE157.out) | exact HB.out)) hb)
                      clear HO_7
                      clear BK157
                      clear HB
                      have HO_7 := n0_
                      have HO160 := n1_
                      have BK157 := n2_
                      have HB := n3_
                      clear n0_ n1_ n2_ n3_
                      clear hb ho22
                      obtain ⟨Ao24, co24, eo24⟩ := Kd.N_slice HO160.out
                      (first | subst eo24 | (injection eo24 with f1_ f2_ f3_; have f4_ := f1_.symm; have f5_ := f3_.symm; clear f1_ f2_ f3_; subst f4_; subst f5_))
                      refine hK.out _ _ ⟨(blk_cell BK157.out 0).trans rfl, (blk_cell BK157.out 1).trans rfl, (blk_cell BK157.out 2).trans rfl, (blk_cell BK157.out 3).trans rfl, (blk_cell BK157.out 4).trans rfl⟩ (fun hHeld => ?_)
                      clear hK K
                      refine norm_ (a' := ?_) ?_ ?_
                      rotate_left
                      · show Act.put _ (some 49) _ = _
                        simp only [Act.put, List.setIfInBounds_toArray, List.set_cons_zero, List.set_cons_succ, i64_w, i32_w]
                        rfl
                      refine one_ (i := 13) (N := some 50) #[true, true, true, true, true, true, true, true, true, true, true, true, true, true, false] rfl rfl (one_of HT_.out (by kernel_rfl)) (by decide) (fun K hK => ?_)
                      refine Kd.N_append_rows_step k47 (w0 := w) w.heap.size (by rfl) (.tmp 37) (.tmp 49) 41 47 (.agg #[(.int .i64 0), (.string ⟨#[]⟩), (.string ⟨#[]⟩), (.slice none 0 0), (.bool false)]) 72 rfl Try.underlying41 info47 rfl (by decide) (by omega) u7 x7_1 y158 _ _ _ (fun k_ => k_ ≠ gb157) (fun k_ => ((fun k_ => k_ ≠ gb157)) k_ ∧ some k_ ≠ (u7 : Value).ownBlock) rfl rfl ?aO ?aR (fun _ hk => hk) ?aF ?aB ?aS ?aL ?_
                      (case aR => exact (by skip; exact Kd.N_F (Kd.N_mono (ok' := (fun k_ => ((fun k_ => k_ ≠ gb157)) k_ ∧ some k_ ≠ (u7 : Value).ownBlock)) (HO160.out) (fun k_ hk => ⟨hk.2, hk.1⟩))))
                      (case aB => exact (by repeat (first | (with_reducible first | exact HB.out | apply below_alloc | apply pw_below_drewN | apply below_drew1 | refine below_set ?_ GE157.out) | exact HB.out)))
                      (case aF => exact (fun k_ hk => Kd.freshB (g := gb157) (o := .cells #[.int .i64 ((rd_T47 l0 x8_1).f0), .string ((rd_T47 l0 x8_1).f1), .string ((rd_T47 l0 x8_1).f2), .slice A156_3 ((rd_T47 l0 x8_1).f3).length c156_3, .bool ((rd_T47 l0 x8_1).f4)] 47 (0, 0)) (by (with_reducible repeat (first | refine blk_drewN ?_ _ | refine blk_drew ?_ | refine blk_alloc ?_ _)); exact BK157.out) k_ hk))
                      (case aO => exact (by (with_reducible repeat (first | apply Kd.N_alloc | apply Kd.N_drewN | apply Kd.N_drew)); exact Kd.N_mono HO_7.out (fun _ hk => hk.1)))
                      (case aS => exact (below_size (by repeat (first | (with_reducible first | exact HB.out | apply below_alloc | apply pw_below_drewN | apply below_drew1 | refine below_set ?_ GE157.out) | exact HB.out))))
                      (case aL => have := LMc16.out; omega)
                      intro v162 w23 ho hb hg hat
                      rw [← Ny161.out] at ho
                      have n0_ := Aside0.mk (blk_grown (g := gb157) (o := .cells #[.int .i64 ((rd_T47 l0 x8_1).f0), .string ((rd_T47 l0 x8_1).f1), .string ((rd_T47 l0 x8_1).f2), .slice A156_3 ((rd_T47 l0 x8_1).f3).length c156_3, .bool ((rd_T47 l0 x8_1).f4)] 47 (0, 0)) (by (with_reducible repeat (first | refine blk_drewN ?_ _ | refine blk_drew ?_ | refine blk_alloc ?_ _)); exact BK157.out) hg (Kd.N_away HO_7.out (fun _ hk => hk.1)))
                      have n1_ := Aside0.mk (Kd.N_afterv (ok := (fun k_ => k_ ≠ gb157)) (by (with_reducible repeat (first | apply Kd.N_alloc | apply Kd.N_drewN | apply Kd.N_drew)); exact Kd.N_mono HO160.out (fun _ hk => ⟨hk.2, hk.1⟩)) hg hat)
                      have n2_ := Aside0.mk (hb)
                      have n3_ := Aside0.mk (ho)
                      clear BK157
                      clear HO160
                      clear HB
                      clear HO_7
                      have BK157 := n0_
                      have HO160 := n1_
                      have HB := n2_
                      have HO163 := n3_
                      clear n0_ n1_ n2_ n3_
                      clear ho hb hg hat
                      refine hK.out _ _ ⟨(blk_cell BK157.out 0).trans rfl, (blk_cell BK157.out 1).trans rfl, (blk_cell BK157.out 2).trans rfl, (blk_cell BK157.out 3).trans rfl, (blk_cell BK157.out 4).trans rfl⟩ (fun hHeld => ?_)
                      clear hK K
                      refine norm_ (a' := ?_) ?_ ?_
                      rotate_left
                      · show Act.put _ (some 50) _ = _
                        simp only [Act.put, List.setIfInBounds_toArray, List.set_cons_zero, List.set_cons_succ, i64_w, i32_w]
                        rfl
                      refine pure_ (i := 14) (N := some 7) (v := ?_) (a' := ?_) #[true, true, true, true, true, true, true, true, true, true, true, true, true, true, true] rfl rfl (any_of HT_.out (by kernel_rfl)) (fun _ _ _ h => h) (Or.inl ⟨by rfl, ?_⟩) ?_ ?_
                      rotate_left
                      · intro w'
                        go_simp
                        with_reducible rfl
                      rotate_left
                      · simp only [Act.put, List.setIfInBounds_toArray, List.set_cons_zero, List.set_cons_succ, i64_w, i32_w]
                        rfl
                      refine done_ (done_of HT_.out (by kernel_rfl)) ?_
                      try go_wp2
                      go_roundg k1
                      case measure => have := HK1.out; omega
                      case rel => exact ⟨(y161), (wrap64 (x8_1 + 1)), (by first | rfl | (simp; done) | (simp [*]; done)), H', ⟨by have := HK1.out; omega⟩, ⟨by (with_reducible repeat (first | apply Kd.N_alloc | apply Kd.N_drewN | apply Kd.N_drew)); exact Kd.N_mono HO163.out (fun _ hk => trivial)⟩, ⟨by repeat (first | (with_reducible first | exact HB.out | apply below_alloc | apply pw_below_drewN | apply below_drew1 | refine below_set ?_ GE157.out) | exact HB.out)⟩⟩
                    · rw [if_neg c16] at H
                      exact absurd H (by simp)
                  · rw [if_neg c13] at H
                    exact absurd H (by simp)
                · rw [if_neg c12] at H
                  exact absurd H (by simp)
            · rw [if_neg c9] at H
              have c9b0 : (((rd_T47 l0 x8_1).f0) == 0) = false := beq_eq_false_iff_ne.mpr c9
              have c9b1 : (((rd_T47 l0 x8_1).f0) != 0) = true := bne_iff_ne.mpr c9
              by_cases c25 : ((rd_T47 l0 x8_1).f0) = 1
              · rw [if_pos c25] at H
                have c25b0 : (((rd_T47 l0 x8_1).f0) == 1) = true := beq_iff_eq.mpr c25
                have c25b1 : (((rd_T47 l0 x8_1).f0) != 1) = false := bne_eq_false_iff_eq.mpr c25
                clear c25
                obtain ⟨y164, hy164⟩ : ∃ y_ : List (S51), y_ = (([(⟨(⟨#[104, 105, 100, 100, 101, 110]⟩ : ByteArray), (⟨#[]⟩ : ByteArray)⟩ : S51)] : List (S51))) := ⟨_, rfl⟩
                replace H : (if x7_1.length < 1954687338268 then (flaillaw19_RenderParts.l0 k1 l0 a1 t152 (x7_1 ++ [(⟨(rd_T47 l0 x8_1).f0, (rd_T47 l0 x8_1).f1, (⟨#[]⟩ : ByteArray), y164, false⟩ : S47)]) (wrap64 (x8_1 + 1))) else (none)) = some r := by first | (rw [hy164]; with_reducible exact H) | (have H2_ := (Option.bind_some _ _).symm.trans H; rw [hy164]; with_reducible exact H2_) | (have H2_ := (Option.bind_some _ _).symm.trans H; with_reducible exact H2_) | with_reducible exact H | (rw [hy164]; exact H) | exact H
                have Ny164 := Aside0.mk hy164
                clear hy164
                by_cases c26 : x7_1.length < 1954687338268
                · rw [if_pos c26] at H
                  have LMc26 := Aside0.mk c26
                  clear c26
                  obtain ⟨y167, hy167⟩ : ∃ y_ : List (S47), y_ = (x7_1 ++ [(⟨(rd_T47 l0 x8_1).f0, (rd_T47 l0 x8_1).f1, (⟨#[]⟩ : ByteArray), y164, false⟩ : S47)]) := ⟨_, rfl⟩
                  replace H : (flaillaw19_RenderParts.l0 k1 l0 a1 t152 y167 (wrap64 (x8_1 + 1))) = some r := by first | (rw [hy167]; with_reducible exact H) | (have H2_ := (Option.bind_some _ _).symm.trans H; rw [hy167]; with_reducible exact H2_) | (have H2_ := (Option.bind_some _ _).symm.trans H; with_reducible exact H2_) | with_reducible exact H | (rw [hy167]; exact H) | exact H
                  have Ny167 := Aside0.mk hy167
                  clear hy167
                  have H' := Aside0.mk H
                  clear H
                  have p156 : 0 ≤ (x8_1 : Int) := of_decide_eq_true (by first | (with_reducible assumption) | assumption)
                  have q156 : x8_1 < (l0.length : Int) := of_decide_eq_true (by first | (with_reducible assumption) | assumption)
                  obtain ⟨ad156, A156_3, c156_3, e156, hx156_0, hx156_1, hx156_2, hx156_3, hx156_4, hl156_3, hi156_3⟩ := at_T47 HR0.out x8_1 p156 q156
                  cases e156
                  replace hx156_0 := (HB.out.cell (World.block_lt_of_cell? w _ hx156_0)).trans hx156_0
                  replace hx156_1 := (HB.out.cell (World.block_lt_of_cell? w _ hx156_1)).trans hx156_1
                  replace hx156_2 := (HB.out.cell (World.block_lt_of_cell? w _ hx156_2)).trans hx156_2
                  replace hx156_3 := (HB.out.cell (World.block_lt_of_cell? w _ hx156_3)).trans hx156_3
                  replace hx156_4 := (HB.out.cell (World.block_lt_of_cell? w _ hx156_4)).trans hx156_4
                  have HR156_3 := Aside0.mk hi156_3
                  have HC156_3 := Aside0.mk hl156_3
                  clear hi156_3 hl156_3
                  replace p156 := eq_true p156
                  replace q156 := eq_true q156
                  go_wp2_with (first | ((with_reducible refine gate_dst (N := 9) rfl ?_); refine box_event ?hg (N := 9) ?hd (cs := #[.int .i64 0, .string (⟨#[]⟩ : ByteArray), .string (⟨#[]⟩ : ByteArray), .slice none 0 0, .bool false]) (t := 47) ?hr ?_; (case hd => rfl); (case hg => rfl); (case hr => first | (go_simp; done) | (go_simp; rfl)); intro gb157 hg w27 hbox hb; have n0_ := Aside0.mk (Kd.N_below (Kd.N_elderB (by (with_reducible repeat (first | apply Kd.N_alloc | apply Kd.N_drewN | apply Kd.N_drew)); exact HO_7.out) gb157 (Nat.le_of_eq hg.symm)) hb); have n1_ := Aside0.mk (below_step (by repeat (first | (with_reducible first | exact HB.out | apply below_alloc | apply pw_below_drewN | apply below_drew1) | exact HB.out)) hb); have n2_ := Aside0.mk (hbox); have n3_ := Aside0.mk ((by rw [hg]; exact (below_size (by repeat (first | (with_reducible first | exact HB.out | apply below_alloc | apply pw_below_drewN | apply below_drew1) | exact HB.out))) : w.heap.size ≤ gb157)); have n4_ := Aside0.mk ((by rw [hg]; exact (below_size (by repeat (first | (with_reducible first | exact HB.out | apply below_alloc | apply pw_below_drewN | apply below_drew1) | exact HB.out))) : w.heap.size ≤ gb157)); clear HO_7; clear HB; have HO_7 := n0_; have HB := n1_; have BK157 := n2_; have GW157 := n3_; have GE157 := n4_; clear n0_ n1_ n2_ n3_ n4_; clear hb hbox hg; have hcz28_0 : w27.cell? ⟨gb157, 0, none⟩ = some (.int .i64 0) := (blk_cell BK157.out 0).trans rfl; have hcz28_1 : w27.cell? ⟨gb157, 1, none⟩ = some (.string (⟨#[]⟩ : ByteArray)) := (blk_cell BK157.out 1).trans rfl; have hcz28_2 : w27.cell? ⟨gb157, 2, none⟩ = some (.string (⟨#[]⟩ : ByteArray)) := (blk_cell BK157.out 2).trans rfl; have hcz28_3 : w27.cell? ⟨gb157, 3, none⟩ = some (.slice none 0 0) := (blk_cell BK157.out 3).trans rfl; have hcz28_4 : w27.cell? ⟨gb157, 4, none⟩ = some (.bool false) := (blk_cell BK157.out 4).trans rfl; have hfz28_0 := blk_frozen BK157.out 0; have hfz28_1 := blk_frozen BK157.out 1; have hfz28_2 := blk_frozen BK157.out 2; have hfz28_3 := blk_frozen BK157.out 3; have hfz28_4 := blk_frozen BK157.out 4) | ((with_reducible refine gate_dst (N := 65) rfl ?_); refine Kd.R_lit k51 _ 51 ?hg (N := 65) ?hd (xs := ([(⟨(⟨#[104, 105, 100, 100, 101, 110]⟩ : ByteArray), (⟨#[]⟩ : ByteArray)⟩ : S51)] : List (S51))) (inner := [.string (⟨#[104, 105, 100, 100, 101, 110]⟩ : ByteArray), .string (⟨#[]⟩ : ByteArray)]) (ok := fun _ => True) (okp := fun _ => True) ?hr ?hp (fun _ hk => hk) trivial (Below.refl _ _) (Nat.le_refl _) (by simp) ?_; (case hd => rfl); (case hg => rfl); (case hr => first | (go_simp; done) | (go_simp; rfl)); (case hp => exact (Reps.c2 (show Kd.M k51 _ _ _ (⟨(⟨#[104, 105, 100, 100, 101, 110]⟩ : ByteArray), (⟨#[]⟩ : ByteArray)⟩ : S51) [.string (⟨#[104, 105, 100, 100, 101, 110]⟩ : ByteArray), .string (⟨#[]⟩ : ByteArray)] from (k51_mkM _ _ _ (⟨(⟨#[104, 105, 100, 100, 101, 110]⟩ : ByteArray), (⟨#[]⟩ : ByteArray)⟩ : S51) )) (Reps.none _ _))); intro v165 w29 ho30 hb hg_ hnew_; clear hg_ hnew_; (first | rw [← Ny164.out] at ho30 | (simp only [Int.reduceToNat] at ho30; rw [← Ny164.out] at ho30)); have n0_ := Aside0.mk (Kd.N_elder' (by (with_reducible repeat (first | apply Kd.N_alloc | apply Kd.N_drewN | apply Kd.N_drew)); exact (Kd.N_mono (Kd.N_far (p := ⟨gb157, 4, none⟩) (Kd.N_far (p := ⟨gb157, 3, none⟩) (Kd.N_far (p := ⟨gb157, 2, none⟩) (Kd.N_far (p := ⟨gb157, 1, none⟩) (Kd.N_far (p := ⟨gb157, 0, none⟩) (Kd.N_mono HO_7.out (fun k_ hk => (⟨hk, hk.2⟩ : _ ∧ k_ ≠ gb157))) (fun _ hk => hk.2) (.int .i64 ((rd_T47 l0 x8_1).f0))) (fun _ hk => hk.2) (.string ((rd_T47 l0 x8_1).f1))) (fun _ hk => hk.2) (.string ((rd_T47 l0 x8_1).f2))) (fun _ hk => hk.2) (.slice A156_3 ((rd_T47 l0 x8_1).f3).length c156_3)) (fun _ hk => hk.2) (.bool ((rd_T47 l0 x8_1).f4))) (fun _ h_ => h_.1))) (Kd.R_base ho30) hb); have n1_ := Aside0.mk (Kd.R_lower ho30 (below_size (by repeat (first | (with_reducible first | exact HB.out | apply below_alloc | apply pw_below_drewN | apply below_drew1 | refine below_set ?_ GE157.out) | exact HB.out)))); have n2_ := Aside0.mk (blk_below (g := gb157) (o := .cells #[.int .i64 ((rd_T47 l0 x8_1).f0), .string ((rd_T47 l0 x8_1).f1), .string ((rd_T47 l0 x8_1).f2), .slice A156_3 ((rd_T47 l0 x8_1).f3).length c156_3, .bool ((rd_T47 l0 x8_1).f4)] 47 (0, 0)) (by (with_reducible repeat (first | refine blk_drewN ?_ _ | refine blk_drew ?_ | refine blk_alloc ?_ _)); refine blk_put (cs := #[.int .i64 ((rd_T47 l0 x8_1).f0), .string ((rd_T47 l0 x8_1).f1), .string ((rd_T47 l0 x8_1).f2), .slice A156_3 ((rd_T47 l0 x8_1).f3).length c156_3, .bool false]) ?_ 4 _ rfl; (with_reducible repeat (first | refine blk_drewN ?_ _ | refine blk_drew ?_ | refine blk_alloc ?_ _)); refine blk_put (cs := #[.int .i64 ((rd_T47 l0 x8_1).f0), .string ((rd_T47 l0 x8_1).f1), .string ((rd_T47 l0 x8_1).f2), .slice none 0 0, .bool false]) ?_ 3 _ rfl; (with_reducible repeat (first | refine blk_drewN ?_ _ | refine blk_drew ?_ | refine blk_alloc ?_ _)); refine blk_put (cs := #[.int .i64 ((rd_T47 l0 x8_1).f0), .string ((rd_T47 l0 x8_1).f1), .string (⟨#[]⟩ : ByteArray), .slice none 0 0, .bool false]) ?_ 2 _ rfl; (with_reducible repeat (first | refine blk_drewN ?_ _ | refine blk_drew ?_ | refine blk_alloc ?_ _)); refine blk_put (cs := #[.int .i64 ((rd_T47 l0 x8_1).f0), .string (⟨#[]⟩ : ByteArray), .string (⟨#[]⟩ : ByteArray), .slice none 0 0, .bool false]) ?_ 1 _ rfl; (with_reducible repeat (first | refine blk_drewN ?_ _ | refine blk_drew ?_ | refine blk_alloc ?_ _)); refine blk_put (cs := #[.int .i64 0, .string (⟨#[]⟩ : ByteArray), .string (⟨#[]⟩ : ByteArray), .slice none 0 0, .bool false]) ?_ 0 _ rfl; (with_reducible repeat (first | refine blk_drewN ?_ _ | refine blk_drew ?_ | refine blk_alloc ?_ _)); exact BK157.out) hb); have n3_ := Aside0.mk (below_step (by repeat (first | (with_reducible first | exact HB.out | apply below_alloc | apply pw_below_drewN | apply below_drew1 | refine below_set ?_ GE157.out) | exact HB.out)) hb); clear HO_7; clear BK157; clear HB; have HO_7 := n0_; have HO166 := n1_; have BK157 := n2_; have HB := n3_; clear n0_ n1_ n2_ n3_; clear hb ho30; obtain ⟨Ao31, co31, eo31⟩ := Kd.R_slice HO166.out; subst eo31) | ((with_reducible refine gate_builtin (b := .append) (xs := #[.tmp 59, .tmp 67]) rfl ?_); at_builtin; refine Kd.N_append k47 (w0 := w) w.heap.size rfl (.tmp 59) (.tmp 67) 41 47 (.agg #[(.int .i64 0), (.string ⟨#[]⟩), (.string ⟨#[]⟩), (.slice none 0 0), (.bool false)]) 72 rfl Try.underlying41 info47 rfl (by decide) (by omega) u7 x7_1 (⟨(rd_T47 l0 x8_1).f0, (rd_T47 l0 x8_1).f1, (⟨#[]⟩ : ByteArray), y164, false⟩ : S47) [.int .i64 ((rd_T47 l0 x8_1).f0), .string ((rd_T47 l0 x8_1).f1), .string (⟨#[]⟩ : ByteArray), .slice Ao31 y164.length co31, .bool false] (fun k_ => k_ ≠ gb157) (fun k_ => ((fun k_ => k_ ≠ gb157)) k_ ∧ some k_ ≠ (u7 : Value).ownBlock) rfl rfl ?aP (fun _ hk => hk) ?aF ?aO ?aB ?aS ?aL ?_; (case aP => exact (k47_mkF _ _ (⟨(rd_T47 l0 x8_1).f0, (rd_T47 l0 x8_1).f1, (⟨#[]⟩ : ByteArray), y164, false⟩ : S47) (Kd.R_reads' (Kd.R_mono (ok' := (fun k_ => ((fun k_ => k_ ≠ gb157)) k_ ∧ some k_ ≠ (u7 : Value).ownBlock)) (Kd.R_types (Kd.R_apart' (HO166.out) (Kd.N_typed HO_7.out) (by decide)) BK157.out (by decide)) (fun k_ hk => ⟨hk.2, hk.1.2⟩))).2.1 (Kd.R_F (Kd.R_mono (ok' := (fun k_ => ((fun k_ => k_ ≠ gb157)) k_ ∧ some k_ ≠ (u7 : Value).ownBlock)) (Kd.R_types (Kd.R_apart' (HO166.out) (Kd.N_typed HO_7.out) (by decide)) BK157.out (by decide)) (fun k_ hk => ⟨hk.2, hk.1.2⟩))))); (case aB => exact (by repeat (first | (with_reducible first | exact HB.out | apply below_alloc | apply pw_below_drewN | apply below_drew1 | refine below_set ?_ GE157.out) | exact HB.out))); (case aF => exact (fun k_ hk => Kd.freshB (g := gb157) (o := .cells #[.int .i64 ((rd_T47 l0 x8_1).f0), .string ((rd_T47 l0 x8_1).f1), .string ((rd_T47 l0 x8_1).f2), .slice A156_3 ((rd_T47 l0 x8_1).f3).length c156_3, .bool ((rd_T47 l0 x8_1).f4)] 47 (0, 0)) (by (with_reducible repeat (first | refine blk_drewN ?_ _ | refine blk_drew ?_ | refine blk_alloc ?_ _)); exact BK157.out) k_ hk)); (case aO => exact (by (with_reducible repeat (first | apply Kd.N_alloc | apply Kd.N_drewN | apply Kd.N_drew)); exact Kd.N_mono HO_7.out (fun _ hk => hk.1.2))); (case aS => exact (below_size (by repeat (first | (with_reducible first | exact HB.out | apply below_alloc | apply pw_below_drewN | apply below_drew1 | refine below_set ?_ GE157.out) | exact HB.out)))); (case aL => have := LMc26.out; omega); intro v168 w32 ho hb hg hat; rw [← Ny167.out] at ho; have n0_ := Aside0.mk (blk_grown (g := gb157) (o := .cells #[.int .i64 ((rd_T47 l0 x8_1).f0), .string ((rd_T47 l0 x8_1).f1), .string ((rd_T47 l0 x8_1).f2), .slice A156_3 ((rd_T47 l0 x8_1).f3).length c156_3, .bool ((rd_T47 l0 x8_1).f4)] 47 (0, 0)) (by (with_reducible repeat (first | refine blk_drewN ?_ _ | refine blk_drew ?_ | refine blk_alloc ?_ _)); exact BK157.out) hg (Kd.N_away HO_7.out (fun _ hk => hk.1.2))); have n1_ := Aside0.mk (hb); have n2_ := Aside0.mk (ho); clear BK157; clear HB; clear HO_7; clear HO166; have BK157 := n0_; have HB := n1_; have HO169 := n2_; clear n0_ n1_ n2_; clear ho hb hg hat))
                  go_roundg k1
                  case measure => have := HK1.out; omega
                  case rel => exact ⟨(y167), (wrap64 (x8_1 + 1)), (by first | rfl | (simp; done) | (simp [*]; done)), H', ⟨by have := HK1.out; omega⟩, ⟨by (with_reducible repeat (first | apply Kd.N_alloc | apply Kd.N_drewN | apply Kd.N_drew)); exact Kd.N_mono HO169.out (fun _ hk => trivial)⟩, ⟨by repeat (first | (with_reducible first | exact HB.out | apply below_alloc | apply pw_below_drewN | apply below_drew1 | refine below_set ?_ GE157.out) | exact HB.out)⟩⟩
                · rw [if_neg c26] at H
                  exact absurd H (by simp)
              · rw [if_neg c25] at H
                have c25b0 : (((rd_T47 l0 x8_1).f0) == 1) = false := beq_eq_false_iff_ne.mpr c25
                have c25b1 : (((rd_T47 l0 x8_1).f0) != 1) = true := bne_iff_ne.mpr c25
                by_cases c33 : ((rd_T47 l0 x8_1).f0) = 2
                · rw [if_pos c33] at H
                  have c33b0 : (((rd_T47 l0 x8_1).f0) == 2) = true := beq_iff_eq.mpr c33
                  have c33b1 : (((rd_T47 l0 x8_1).f0) != 2) = false := bne_eq_false_iff_eq.mpr c33
                  clear c33
                  obtain ⟨y170, hy170⟩ : ∃ y_ : List (S51), y_ = (([(⟨(⟨#[104, 105, 100, 100, 101, 110]⟩ : ByteArray), (⟨#[]⟩ : ByteArray)⟩ : S51)] : List (S51))) := ⟨_, rfl⟩
                  replace H : (if x7_1.length < 1954687338268 then (flaillaw19_RenderParts.l0 k1 l0 a1 t152 (x7_1 ++ [(⟨(rd_T47 l0 x8_1).f0, (rd_T47 l0 x8_1).f1, (⟨#[]⟩ : ByteArray), y170, false⟩ : S47)]) (wrap64 (x8_1 + 1))) else (none)) = some r := by first | (rw [hy170]; with_reducible exact H) | (have H2_ := (Option.bind_some _ _).symm.trans H; rw [hy170]; with_reducible exact H2_) | (have H2_ := (Option.bind_some _ _).symm.trans H; with_reducible exact H2_) | with_reducible exact H | (rw [hy170]; exact H) | exact H
                  have Ny170 := Aside0.mk hy170
                  clear hy170
                  by_cases c34 : x7_1.length < 1954687338268
                  · rw [if_pos c34] at H
                    have LMc34 := Aside0.mk c34
                    clear c34
                    obtain ⟨y173, hy173⟩ : ∃ y_ : List (S47), y_ = (x7_1 ++ [(⟨(rd_T47 l0 x8_1).f0, (rd_T47 l0 x8_1).f1, (⟨#[]⟩ : ByteArray), y170, false⟩ : S47)]) := ⟨_, rfl⟩
                    replace H : (flaillaw19_RenderParts.l0 k1 l0 a1 t152 y173 (wrap64 (x8_1 + 1))) = some r := by first | (rw [hy173]; with_reducible exact H) | (have H2_ := (Option.bind_some _ _).symm.trans H; rw [hy173]; with_reducible exact H2_) | (have H2_ := (Option.bind_some _ _).symm.trans H; with_reducible exact H2_) | with_reducible exact H | (rw [hy173]; exact H) | exact H
                    have Ny173 := Aside0.mk hy173
                    clear hy173
                    have H' := Aside0.mk H
                    clear H
                    have p156 : 0 ≤ (x8_1 : Int) := of_decide_eq_true (by first | (with_reducible assumption) | assumption)
                    have q156 : x8_1 < (l0.length : Int) := of_decide_eq_true (by first | (with_reducible assumption) | assumption)
                    obtain ⟨ad156, A156_3, c156_3, e156, hx156_0, hx156_1, hx156_2, hx156_3, hx156_4, hl156_3, hi156_3⟩ := at_T47 HR0.out x8_1 p156 q156
                    cases e156
                    replace hx156_0 := (HB.out.cell (World.block_lt_of_cell? w _ hx156_0)).trans hx156_0
                    replace hx156_1 := (HB.out.cell (World.block_lt_of_cell? w _ hx156_1)).trans hx156_1
                    replace hx156_2 := (HB.out.cell (World.block_lt_of_cell? w _ hx156_2)).trans hx156_2
                    replace hx156_3 := (HB.out.cell (World.block_lt_of_cell? w _ hx156_3)).trans hx156_3
                    replace hx156_4 := (HB.out.cell (World.block_lt_of_cell? w _ hx156_4)).trans hx156_4
                    have HR156_3 := Aside0.mk hi156_3
                    have HC156_3 := Aside0.mk hl156_3
                    clear hi156_3 hl156_3
                    replace p156 := eq_true p156
                    replace q156 := eq_true q156
                    go_wp2_with (first | ((with_reducible refine gate_dst (N := 9) rfl ?_); refine box_event ?hg (N := 9) ?hd (cs := #[.int .i64 0, .string (⟨#[]⟩ : ByteArray), .string (⟨#[]⟩ : ByteArray), .slice none 0 0, .bool false]) (t := 47) ?hr ?_; (case hd => rfl); (case hg => rfl); (case hr => first | (go_simp; done) | (go_simp; rfl)); intro gb157 hg w35 hbox hb; have n0_ := Aside0.mk (Kd.N_below (Kd.N_elderB (by (with_reducible repeat (first | apply Kd.N_alloc | apply Kd.N_drewN | apply Kd.N_drew)); exact HO_7.out) gb157 (Nat.le_of_eq hg.symm)) hb); have n1_ := Aside0.mk (below_step (by repeat (first | (with_reducible first | exact HB.out | apply below_alloc | apply pw_below_drewN | apply below_drew1) | exact HB.out)) hb); have n2_ := Aside0.mk (hbox); have n3_ := Aside0.mk ((by rw [hg]; exact (below_size (by repeat (first | (with_reducible first | exact HB.out | apply below_alloc | apply pw_below_drewN | apply below_drew1) | exact HB.out))) : w.heap.size ≤ gb157)); have n4_ := Aside0.mk ((by rw [hg]; exact (below_size (by repeat (first | (with_reducible first | exact HB.out | apply below_alloc | apply pw_below_drewN | apply below_drew1) | exact HB.out))) : w.heap.size ≤ gb157)); clear HO_7; clear HB; have HO_7 := n0_; have HB := n1_; have BK157 := n2_; have GW157 := n3_; have GE157 := n4_; clear n0_ n1_ n2_ n3_ n4_; clear hb hbox hg; have hcz36_0 : w35.cell? ⟨gb157, 0, none⟩ = some (.int .i64 0) := (blk_cell BK157.out 0).trans rfl; have hcz36_1 : w35.cell? ⟨gb157, 1, none⟩ = some (.string (⟨#[]⟩ : ByteArray)) := (blk_cell BK157.out 1).trans rfl; have hcz36_2 : w35.cell? ⟨gb157, 2, none⟩ = some (.string (⟨#[]⟩ : ByteArray)) := (blk_cell BK157.out 2).trans rfl; have hcz36_3 : w35.cell? ⟨gb157, 3, none⟩ = some (.slice none 0 0) := (blk_cell BK157.out 3).trans rfl; have hcz36_4 : w35.cell? ⟨gb157, 4, none⟩ = some (.bool false) := (blk_cell BK157.out 4).trans rfl; have hfz36_0 := blk_frozen BK157.out 0; have hfz36_1 := blk_frozen BK157.out 1; have hfz36_2 := blk_frozen BK157.out 2; have hfz36_3 := blk_frozen BK157.out 3; have hfz36_4 := blk_frozen BK157.out 4) | ((with_reducible refine gate_dst (N := 65) rfl ?_); refine Kd.R_lit k51 _ 51 ?hg (N := 65) ?hd (xs := ([(⟨(⟨#[104, 105, 100, 100, 101, 110]⟩ : ByteArray), (⟨#[]⟩ : ByteArray)⟩ : S51)] : List (S51))) (inner := [.string (⟨#[104, 105, 100, 100, 101, 110]⟩ : ByteArray), .string (⟨#[]⟩ : ByteArray)]) (ok := fun _ => True) (okp := fun _ => True) ?hr ?hp (fun _ hk => hk) trivial (Below.refl _ _) (Nat.le_refl _) (by simp) ?_; (case hd => rfl); (case hg => rfl); (case hr => first | (go_simp; done) | (go_simp; rfl)); (case hp => exact (Reps.c2 (show Kd.M k51 _ _ _ (⟨(⟨#[104, 105, 100, 100, 101, 110]⟩ : ByteArray), (⟨#[]⟩ : ByteArray)⟩ : S51) [.string (⟨#[104, 105, 100, 100, 101, 110]⟩ : ByteArray), .string (⟨#[]⟩ : ByteArray)] from (k51_mkM _ _ _ (⟨(⟨#[104, 105, 100, 100, 101, 110]⟩ : ByteArray), (⟨#[]⟩ : ByteArray)⟩ : S51) )) (Reps.none _ _))); intro v171 w37 ho38 hb hg_ hnew_; clear hg_ hnew_; (first | rw [← Ny170.out] at ho38 | (simp only [Int.reduceToNat] at ho38; rw [← Ny170.out] at ho38)); have n0_ := Aside0.mk (Kd.N_elder' (by (with_reducible repeat (first | apply Kd.N_alloc | apply Kd.N_drewN | apply Kd.N_drew)); exact (Kd.N_mono (Kd.N_far (p := ⟨gb157, 4, none⟩) (Kd.N_far (p := ⟨gb157, 3, none⟩) (Kd.N_far (p := ⟨gb157, 2, none⟩) (Kd.N_far (p := ⟨gb157, 1, none⟩) (Kd.N_far (p := ⟨gb157, 0, none⟩) (Kd.N_mono HO_7.out (fun k_ hk => (⟨hk, hk.2⟩ : _ ∧ k_ ≠ gb157))) (fun _ hk => hk.2) (.int .i64 ((rd_T47 l0 x8_1).f0))) (fun _ hk => hk.2) (.string ((rd_T47 l0 x8_1).f1))) (fun _ hk => hk.2) (.string ((rd_T47 l0 x8_1).f2))) (fun _ hk => hk.2) (.slice A156_3 ((rd_T47 l0 x8_1).f3).length c156_3)) (fun _ hk => hk.2) (.bool ((rd_T47 l0 x8_1).f4))) (fun _ h_ => h_.1))) (Kd.R_base ho38) hb); have n1_ := Aside0.mk (Kd.R_lower ho38 (below_size (by repeat (first | (with_reducible first | exact HB.out | apply below_alloc | apply pw_below_drewN | apply below_drew1 | refine below_set ?_ GE157.out) | exact HB.out)))); have n2_ := Aside0.mk (blk_below (g := gb157) (o := .cells #[.int .i64 ((rd_T47 l0 x8_1).f0), .string ((rd_T47 l0 x8_1).f1), .string ((rd_T47 l0 x8_1).f2), .slice A156_3 ((rd_T47 l0 x8_1).f3).length c156_3, .bool ((rd_T47 l0 x8_1).f4)] 47 (0, 0)) (by (with_reducible repeat (first | refine blk_drewN ?_ _ | refine blk_drew ?_ | refine blk_alloc ?_ _)); refine blk_put (cs := #[.int .i64 ((rd_T47 l0 x8_1).f0), .string ((rd_T47 l0 x8_1).f1), .string ((rd_T47 l0 x8_1).f2), .slice A156_3 ((rd_T47 l0 x8_1).f3).length c156_3, .bool false]) ?_ 4 _ rfl; (with_reducible repeat (first | refine blk_drewN ?_ _ | refine blk_drew ?_ | refine blk_alloc ?_ _)); refine blk_put (cs := #[.int .i64 ((rd_T47 l0 x8_1).f0), .string ((rd_T47 l0 x8_1).f1), .string ((rd_T47 l0 x8_1).f2), .slice none 0 0, .bool false]) ?_ 3 _ rfl; (with_reducible repeat (first | refine blk_drewN ?_ _ | refine blk_drew ?_ | refine blk_alloc ?_ _)); refine blk_put (cs := #[.int .i64 ((rd_T47 l0 x8_1).f0), .string ((rd_T47 l0 x8_1).f1), .string (⟨#[]⟩ : ByteArray), .slice none 0 0, .bool false]) ?_ 2 _ rfl; (with_reducible repeat (first | refine blk_drewN ?_ _ | refine blk_drew ?_ | refine blk_alloc ?_ _)); refine blk_put (cs := #[.int .i64 ((rd_T47 l0 x8_1).f0), .string (⟨#[]⟩ : ByteArray), .string (⟨#[]⟩ : ByteArray), .slice none 0 0, .bool false]) ?_ 1 _ rfl; (with_reducible repeat (first | refine blk_drewN ?_ _ | refine blk_drew ?_ | refine blk_alloc ?_ _)); refine blk_put (cs := #[.int .i64 0, .string (⟨#[]⟩ : ByteArray), .string (⟨#[]⟩ : ByteArray), .slice none 0 0, .bool false]) ?_ 0 _ rfl; (with_reducible repeat (first | refine blk_drewN ?_ _ | refine blk_drew ?_ | refine blk_alloc ?_ _)); exact BK157.out) hb); have n3_ := Aside0.mk (below_step (by repeat (first | (with_reducible first | exact HB.out | apply below_alloc | apply pw_below_drewN | apply below_drew1 | refine below_set ?_ GE157.out) | exact HB.out)) hb); clear HO_7; clear BK157; clear HB; have HO_7 := n0_; have HO172 := n1_; have BK157 := n2_; have HB := n3_; clear n0_ n1_ n2_ n3_; clear hb ho38; obtain ⟨Ao39, co39, eo39⟩ := Kd.R_slice HO172.out; subst eo39) | ((with_reducible refine gate_builtin (b := .append) (xs := #[.tmp 59, .tmp 67]) rfl ?_); at_builtin; refine Kd.N_append k47 (w0 := w) w.heap.size rfl (.tmp 59) (.tmp 67) 41 47 (.agg #[(.int .i64 0), (.string ⟨#[]⟩), (.string ⟨#[]⟩), (.slice none 0 0), (.bool false)]) 72 rfl Try.underlying41 info47 rfl (by decide) (by omega) u7 x7_1 (⟨(rd_T47 l0 x8_1).f0, (rd_T47 l0 x8_1).f1, (⟨#[]⟩ : ByteArray), y170, false⟩ : S47) [.int .i64 ((rd_T47 l0 x8_1).f0), .string ((rd_T47 l0 x8_1).f1), .string (⟨#[]⟩ : ByteArray), .slice Ao39 y170.length co39, .bool false] (fun k_ => k_ ≠ gb157) (fun k_ => ((fun k_ => k_ ≠ gb157)) k_ ∧ some k_ ≠ (u7 : Value).ownBlock) rfl rfl ?aP (fun _ hk => hk) ?aF ?aO ?aB ?aS ?aL ?_; (case aP => exact (k47_mkF _ _ (⟨(rd_T47 l0 x8_1).f0, (rd_T47 l0 x8_1).f1, (⟨#[]⟩ : ByteArray), y170, false⟩ : S47) (Kd.R_reads' (Kd.R_mono (ok' := (fun k_ => ((fun k_ => k_ ≠ gb157)) k_ ∧ some k_ ≠ (u7 : Value).ownBlock)) (Kd.R_types (Kd.R_apart' (HO172.out) (Kd.N_typed HO_7.out) (by decide)) BK157.out (by decide)) (fun k_ hk => ⟨hk.2, hk.1.2⟩))).2.1 (Kd.R_F (Kd.R_mono (ok' := (fun k_ => ((fun k_ => k_ ≠ gb157)) k_ ∧ some k_ ≠ (u7 : Value).ownBlock)) (Kd.R_types (Kd.R_apart' (HO172.out) (Kd.N_typed HO_7.out) (by decide)) BK157.out (by decide)) (fun k_ hk => ⟨hk.2, hk.1.2⟩))))); (case aB => exact (by repeat (first | (with_reducible first | exact HB.out | apply below_alloc | apply pw_below_drewN | apply below_drew1 | refine below_set ?_ GE157.out) | exact HB.out))); (case aF => exact (fun k_ hk => Kd.freshB (g := gb157) (o := .cells #[.int .i64 ((rd_T47 l0 x8_1).f0), .string ((rd_T47 l0 x8_1).f1), .string ((rd_T47 l0 x8_1).f2), .slice A156_3 ((rd_T47 l0 x8_1).f3).length c156_3, .bool ((rd_T47 l0 x8_1).f4)] 47 (0, 0)) (by (with_reducible repeat (first | refine blk_drewN ?_ _ | refine blk_drew ?_ | refine blk_alloc ?_ _)); exact BK157.out) k_ hk)); (case aO => exact (by (with_reducible repeat (first | apply Kd.N_alloc | apply Kd.N_drewN | apply Kd.N_drew)); exact Kd.N_mono HO_7.out (fun _ hk => hk.1.2))); (case aS => exact (below_size (by repeat (first | (with_reducible first | exact HB.out | apply below_alloc | apply pw_below_drewN | apply below_drew1 | refine below_set ?_ GE157.out) | exact HB.out)))); (case aL => have := LMc34.out; omega); intro v174 w40 ho hb hg hat; rw [← Ny173.out] at ho; have n0_ := Aside0.mk (blk_grown (g := gb157) (o := .cells #[.int .i64 ((rd_T47 l0 x8_1).f0), .string ((rd_T47 l0 x8_1).f1), .string ((rd_T47 l0 x8_1).f2), .slice A156_3 ((rd_T47 l0 x8_1).f3).length c156_3, .bool ((rd_T47 l0 x8_1).f4)] 47 (0, 0)) (by (with_reducible repeat (first | refine blk_drewN ?_ _ | refine blk_drew ?_ | refine blk_alloc ?_ _)); exact BK157.out) hg (Kd.N_away HO_7.out (fun _ hk => hk.1.2))); have n1_ := Aside0.mk (hb); have n2_ := Aside0.mk (ho); clear BK157; clear HB; clear HO_7; clear HO172; have BK157 := n0_; have HB := n1_; have HO175 := n2_; clear n0_ n1_ n2_; clear ho hb hg hat))
                    go_roundg k1
                    case measure => have := HK1.out; omega
                    case rel => exact ⟨(y173), (wrap64 (x8_1 + 1)), (by first | rfl | (simp; done) | (simp [*]; done)), H', ⟨by have := HK1.out; omega⟩, ⟨by (with_reducible repeat (first | apply Kd.N_alloc | apply Kd.N_drewN | apply Kd.N_drew)); exact Kd.N_mono HO175.out (fun _ hk => trivial)⟩, ⟨by repeat (first | (with_reducible first | exact HB.out | apply below_alloc | apply pw_below_drewN | apply below_drew1 | refine below_set ?_ GE157.out) | exact HB.out)⟩⟩
                  · rw [if_neg c34] at H
                    exact absurd H (by simp)
                · rw [if_neg c33] at H
                  have c33b0 : (((rd_T47 l0 x8_1).f0) == 2) = false := beq_eq_false_iff_ne.mpr c33
                  have c33b1 : (((rd_T47 l0 x8_1).f0) != 2) = true := bne_iff_ne.mpr c33
                  have H' := Aside0.mk H
                  clear H
                  have p156 : 0 ≤ (x8_1 : Int) := of_decide_eq_true (by first | (with_reducible assumption) | assumption)
                  have q156 : x8_1 < (l0.length : Int) := of_decide_eq_true (by first | (with_reducible assumption) | assumption)
                  obtain ⟨ad156, A156_3, c156_3, e156, hx156_0, hx156_1, hx156_2, hx156_3, hx156_4, hl156_3, hi156_3⟩ := at_T47 HR0.out x8_1 p156 q156
                  cases e156
                  replace hx156_0 := (HB.out.cell (World.block_lt_of_cell? w _ hx156_0)).trans hx156_0
                  replace hx156_1 := (HB.out.cell (World.block_lt_of_cell? w _ hx156_1)).trans hx156_1
                  replace hx156_2 := (HB.out.cell (World.block_lt_of_cell? w _ hx156_2)).trans hx156_2
                  replace hx156_3 := (HB.out.cell (World.block_lt_of_cell? w _ hx156_3)).trans hx156_3
                  replace hx156_4 := (HB.out.cell (World.block_lt_of_cell? w _ hx156_4)).trans hx156_4
                  have HR156_3 := Aside0.mk hi156_3
                  have HC156_3 := Aside0.mk hl156_3
                  clear hi156_3 hl156_3
                  replace p156 := eq_true p156
                  replace q156 := eq_true q156
                  go_wp2_with (first | ((with_reducible refine gate_dst (N := 9) rfl ?_); refine box_event ?hg (N := 9) ?hd (cs := #[.int .i64 0, .string (⟨#[]⟩ : ByteArray), .string (⟨#[]⟩ : ByteArray), .slice none 0 0, .bool false]) (t := 47) ?hr ?_; (case hd => rfl); (case hg => rfl); (case hr => first | (go_simp; done) | (go_simp; rfl)); intro gb157 hg w41 hbox hb; have n0_ := Aside0.mk (Kd.N_below (Kd.N_elderB (by (with_reducible repeat (first | apply Kd.N_alloc | apply Kd.N_drewN | apply Kd.N_drew)); exact HO_7.out) gb157 (Nat.le_of_eq hg.symm)) hb); have n1_ := Aside0.mk (below_step (by repeat (first | (with_reducible first | exact HB.out | apply below_alloc | apply pw_below_drewN | apply below_drew1) | exact HB.out)) hb); have n2_ := Aside0.mk (hbox); have n3_ := Aside0.mk ((by rw [hg]; exact (below_size (by repeat (first | (with_reducible first | exact HB.out | apply below_alloc | apply pw_below_drewN | apply below_drew1) | exact HB.out))) : w.heap.size ≤ gb157)); have n4_ := Aside0.mk ((by rw [hg]; exact (below_size (by repeat (first | (with_reducible first | exact HB.out | apply below_alloc | apply pw_below_drewN | apply below_drew1) | exact HB.out))) : w.heap.size ≤ gb157)); clear HO_7; clear HB; have HO_7 := n0_; have HB := n1_; have BK157 := n2_; have GW157 := n3_; have GE157 := n4_; clear n0_ n1_ n2_ n3_ n4_; clear hb hbox hg; have hcz42_0 : w41.cell? ⟨gb157, 0, none⟩ = some (.int .i64 0) := (blk_cell BK157.out 0).trans rfl; have hcz42_1 : w41.cell? ⟨gb157, 1, none⟩ = some (.string (⟨#[]⟩ : ByteArray)) := (blk_cell BK157.out 1).trans rfl; have hcz42_2 : w41.cell? ⟨gb157, 2, none⟩ = some (.string (⟨#[]⟩ : ByteArray)) := (blk_cell BK157.out 2).trans rfl; have hcz42_3 : w41.cell? ⟨gb157, 3, none⟩ = some (.slice none 0 0) := (blk_cell BK157.out 3).trans rfl; have hcz42_4 : w41.cell? ⟨gb157, 4, none⟩ = some (.bool false) := (blk_cell BK157.out 4).trans rfl; have hfz42_0 := blk_frozen BK157.out 0; have hfz42_1 := blk_frozen BK157.out 1; have hfz42_2 := blk_frozen BK157.out 2; have hfz42_3 := blk_frozen BK157.out 3; have hfz42_4 := blk_frozen BK157.out 4))
                  go_roundg k1
                  case measure => have := HK1.out; omega
                  case rel => exact ⟨(x7_1), (wrap64 (x8_1 + 1)), (by first | rfl | (simp; done) | (simp [*]; done)), H', ⟨by have := HK1.out; omega⟩, ⟨by (with_reducible repeat (first | apply Kd.N_alloc | apply Kd.N_drewN | apply Kd.N_drew)); exact Kd.N_mono (Kd.N_far (p := ⟨gb157, 4, none⟩) (Kd.N_far (p := ⟨gb157, 3, none⟩) (Kd.N_far (p := ⟨gb157, 2, none⟩) (Kd.N_far (p := ⟨gb157, 1, none⟩) (Kd.N_far (p := ⟨gb157, 0, none⟩) (Kd.N_mono HO_7.out (fun k_ hk => (⟨hk, hk.2⟩ : _ ∧ k_ ≠ gb157))) (fun _ hk => hk.2) (.int .i64 ((rd_T47 l0 x8_1).f0))) (fun _ hk => hk.2) (.string ((rd_T47 l0 x8_1).f1))) (fun _ hk => hk.2) (.string ((rd_T47 l0 x8_1).f2))) (fun _ hk => hk.2) (.slice A156_3 ((rd_T47 l0 x8_1).f3).length c156_3)) (fun _ hk => hk.2) (.bool ((rd_T47 l0 x8_1).f4))) (fun _ hk => trivial)⟩, ⟨by repeat (first | (with_reducible first | exact HB.out | apply below_alloc | apply pw_below_drewN | apply below_drew1 | refine below_set ?_ GE157.out) | exact HB.out)⟩⟩
          · rw [if_neg c8] at H
            exact absurd H (by simp)
        · rw [if_neg c7] at H
          have c7b0 : decide (x8_1 < (l0.length : Int)) = false := decide_eq_false c7
          clear c7
          by_cases c43 : t152 = true
          · subst c43
            have H1 : ((render_Render.f x7_1).bind fun t154 => ((render_Render.f l0).bind fun t155 => (some (t154.toList == t155.toList)))) = some r := by rw [if_pos rfl] at H; exact H
            clear H
            have H := H1
            clear H1
            replace H := Option.bind_eq_some_iff.mp H
            obtain ⟨t154, A440, H⟩ := H
            replace H : ((render_Render.f l0).bind fun t155 => (some (t154.toList == t155.toList))) = some r := H
            have A44 := Aside0.mk A440
            clear A440
            replace H := Option.bind_eq_some_iff.mp H
            obtain ⟨t155, A450, H⟩ := H
            replace H : (some (t154.toList == t155.toList)) = some r := H
            have A45 := Aside0.mk A450
            clear A450
            obtain rfl := Option.some.inj H
            obtain ⟨Ao46, co46, eo46⟩ := Kd.N_slice HO_7.out
            subst eo46
            go_wp2_with (first | (go_at_call 27; (with_reducible refine (render_Render.calls _ _ x7_1 t154 _ ?side1 ?side2 A44.out).mono ?_); (case side1 => repeat (first | exact (Kd.N_reads' HO_7.out).2.2 | (with_reducible refine Kd.C_alloc ?_ _) | (with_reducible refine Kd.C_drewN ?_ _) | (with_reducible refine Kd.C_drew ?_))); (case side2 => exact (Kd.N_reads' HO_7.out).2.1); rintro e w47 ⟨rfl, hb⟩; have n0_ := Aside0.mk (Kd.N_below (by (with_reducible repeat (first | apply Kd.N_alloc | apply Kd.N_drewN | apply Kd.N_drew)); exact HO_7.out) hb); have n1_ := Aside0.mk (below_step (by repeat (first | (with_reducible first | exact HB.out | apply below_alloc | apply pw_below_drewN | apply below_drew1) | exact HB.out)) hb); clear HO_7; clear HB; have HO_7 := n0_; have HB := n1_; clear n0_ n1_; (try clear hb); (try clear hb2); (try clear hk); (try clear hi)) | (go_at_call 27; (with_reducible refine (render_Render.calls _ _ l0 t155 _ ?side1 ?side2 A45.out).mono ?_); (case side1 => repeat (first | exact (Kd.C_below HR0.out HB.out) | (with_reducible refine Kd.C_alloc ?_ _) | (with_reducible refine Kd.C_drewN ?_ _) | (with_reducible refine Kd.C_drew ?_))); (case side2 => exact HC0.out); rintro e w48 ⟨rfl, hb⟩; have n0_ := Aside0.mk (Kd.N_below (by (with_reducible repeat (first | apply Kd.N_alloc | apply Kd.N_drewN | apply Kd.N_drew)); exact HO_7.out) hb); have n1_ := Aside0.mk (below_step (by repeat (first | (with_reducible first | exact HB.out | apply below_alloc | apply pw_below_drewN | apply below_drew1) | exact HB.out)) hb); clear HO_7; clear HB; have HO_7 := n0_; have HB := n1_; clear n0_ n1_; (try clear hb); (try clear hb2); (try clear hk); (try clear hi)))
            go_ret
            exact ⟨by first | rfl | (simp [errW_none, errW_some] <;> rfl) | (simp [*, errW_none, errW_some] <;> rfl), by repeat (first | (with_reducible first | exact HB.out | apply below_alloc | apply pw_below_drewN | apply below_drew1) | exact HB.out)⟩
          · replace c43 := Bool.eq_false_iff.mpr c43
            subst c43
            have H1 : (some false) = some r := by rw [if_neg (show ¬ (false = true) by decide)] at H; exact H
            clear H
            have H := H1
            clear H1
            obtain rfl := Option.some.inj H
            go_wp2
            go_ret
            exact ⟨by first | rfl | (simp [errW_none, errW_some] <;> rfl) | (simp [*, errW_none, errW_some] <;> rfl), by repeat (first | (with_reducible first | exact HB.out | apply below_alloc | apply pw_below_drewN | apply below_drew1) | exact HB.out)⟩
  · replace c5 := Bool.eq_false_iff.mpr c5
    subst c5
    have H1 : (some t152) = some r := by rw [if_neg (show ¬ (false = true) by decide)] at H; exact H
    clear H
    have H := H1
    clear H1
    obtain rfl := Option.some.inj H
    go_enter Try.func12, Try.ntmps12
    go_wp2_with (first | ((with_reducible refine gate_callee (f := 25) rfl ?_); refine goesL_ (some 11) rfl rfl Try.func25 (by kernel_rfl) rfl #[] rfl (by (try simp only [List.map_toArray, List.map_cons, List.map_nil]); first | done | rfl | (simp only [List.length_drop, List.length_take]; rfl)) ?_; (with_reducible refine (flaillaw19_awake.calls  t152 _ A3.out).mono ?_); rintro e w49 ⟨rfl, hb⟩; refine ⟨_, rfl, ?_⟩; have n0_ := Aside0.mk (below_step (by repeat (first | (with_reducible first | exact HB.out | apply below_alloc | apply pw_below_drewN | apply below_drew1) | exact HB.out)) hb); clear HB; have HB := n0_; clear n0_; (try clear hb); (try clear hb2); (try clear hk); (try clear hi)) | ((with_reducible refine gate_callee (f := 26) rfl ?_); refine goesL_ (some 13) rfl rfl Try.func26 (by kernel_rfl) rfl #[.slice A0 l0.length c0] rfl (by (try simp only [List.map_toArray, List.map_cons, List.map_nil]); first | done | rfl | (simp only [List.length_drop, List.length_take]; rfl)) ?_; (with_reducible refine (flailref15_Few.calls k _ _ l0 false _ ?side1 ?side2 A4.out).mono ?_); (case side1 => repeat (first | exact (Kd.C_below HR0.out HB.out) | (with_reducible refine Kd.C_alloc ?_ _) | (with_reducible refine Kd.C_drewN ?_ _) | (with_reducible refine Kd.C_drew ?_))); (case side2 => exact HC0.out); rintro e w' ⟨rfl, ⟨nd, rfl⟩⟩; refine ⟨_, rfl, ?_⟩))
    go_ret
    exact ⟨by first | rfl | (simp [errW_none, errW_some] <;> rfl) | (simp [*, errW_none, errW_some] <;> rfl), by repeat (first | (with_reducible first | exact HB.out | apply below_alloc | apply pw_below_drewN | apply below_drew1) | exact HB.out)⟩

end Go.Proofs.Ytaejicolhliecaa.PRe

/- What attributes say, comments and doctypes play no part, nor does how a text is cut in two: of every tokens and every place the law's call returns true: the law's walk over Render's contract. No condition. -/
set_option linter.unusedVariables false
namespace Go.Proofs.Ytaejicolhliecaa.HandRenderParts
open Go.RowKit Go.Proofs.Ytaejicolhliecaa.PRe Go.Proofs.Ytaejicolhliecaa.Rend Go.Proofs.YtaejicolhliecaaW.PrintWords Go.Proofs.YtaejicolhliecaaW.PrintLast
open Go.Proofs.Ytaejicolhliecaa.Flow (M)

theorem put_app (k : Bool) (a b : List UInt8) (m : M) : m.put k (a ++ b) = (m.put k a).put k b := by
  unfold Flow.M.put
  rw [List.foldl_append]

def tTok (t : ByteArray) : S47 := ⟨0, ⟨#[]⟩, t, [], false⟩
def cTok : S47 := ⟨3, ⟨#[]⟩, ⟨#[120]⟩, [], false⟩

theorem cut_data (t : ByteArray) (k : Nat) (hk : k ≤ t.size) : (t.extract 0 k).data.toList ++ (t.extract k t.size).data.toList = t.data.toList := by
  have hl : t.data.toList.length = t.size := by simp
  simp only [ByteArray.data_extract, Array.toList_extract, List.extract_eq_take_drop, List.drop_zero, Nat.sub_zero]
  rw [show t.size - k = (t.data.toList.drop k).length by simp, List.take_length, List.take_append_drop]

theorem text_text (s : Pg) (t : ByteArray) (k : Nat) (hk : k ≤ t.size) : ((s.text (t.extract 0 k)).text (t.extract k t.size)) = s.text t := by
  unfold Pg.text
  by_cases h : s.names = []
  · rw [if_pos h, if_pos h, if_pos h]
    simp only
    rw [← put_app, cut_data t k hk]
  · rw [if_neg h, if_neg h, if_neg h]
theorem step_cut (s : Pg) (x : S47) (hx : x.f0 = 0) (k : Nat) (hk : k ≤ x.f2.size) : ((s.step (tTok (x.f2.extract 0 k))).step cTok).step (tTok (x.f2.extract k x.f2.size)) = s.step x := by
  have h1 : ∀ (s : Pg) t, s.step (tTok t) = s.text t := fun s t => rfl
  have h2 : ∀ s : Pg, s.step cTok = s := fun s => rfl
  have h3 : s.step x = s.text x.f2 := by unfold Pg.step; rw [if_neg (by omega), if_neg (by omega), if_pos hx]
  rw [h1, h2, h1, h3, text_text s x.f2 k hk]
theorem step_bare (s : Pg) (x : S47) (a : List S51) (hx : x.f0 = 1 ∨ x.f0 = 2) : s.step ⟨x.f0, x.f1, ⟨#[]⟩, a, false⟩ = s.step x := by
  unfold Pg.step
  rcases hx with hx | hx
  · simp only [hx]
    rfl
  · simp only [hx]
    rfl
theorem step_none (s : Pg) (x : S47) (h0 : x.f0 ≠ 0) (h1 : x.f0 ≠ 1) (h2 : x.f0 ≠ 2) : s.step x = s := by
  unfold Pg.step
  rw [if_neg h1, if_neg h2, if_neg h0]

theorem tmod_fit (a : Int) (ha : 0 ≤ a) (n : Nat) : ∃ j : Nat, Int.tmod a ((n : Int) + 1) = (j : Int) ∧ j ≤ n := by
  have h1 : Int.tmod a ((n : Int) + 1) = a % ((n : Int) + 1) := Int.tmod_eq_emod_of_nonneg ha
  have h2 := Int.emod_nonneg a (show ((n : Int) + 1) ≠ 0 by omega)
  have h3 := Int.emod_lt_of_pos a (show 0 < ((n : Int) + 1) by omega)
  exact ⟨(a % ((n : Int) + 1)).toNat, by omega, by omega⟩
theorem wrap_id {a : Int} (h : 0 ≤ a ∧ a ≤ 1000000) : wrap64 a = a := by unfold wrap64; omega
theorem parts_l (l : List S47) (a1 : Int) (ha : 0 ≤ a1 ∧ a1 ≤ 255) (hl : l.length ≤ 60) (ht : ∀ x ∈ l, x.f2.size ≤ 200) (hw : ∀ x ∈ l, (Lit.int .i64 x.f0).wf = true) (d : Nat) : ∀ (k i : Nat) (m : List S47), l.length - i = d → i ≤ l.length → d < k →
    m.length ≤ 3 * i → (∀ x ∈ m, x.f2.size ≤ 200 ∧ (Lit.int .i64 x.f0).wf = true) → Pg.all m Pg.none = Pg.all (l.take i) Pg.none → flaillaw19_RenderParts.l0 k l a1 true m (i : Int) = some true := by
  induction d with
  | zero =>
    intro k i m hd hi hk hm hmt hs
    obtain ⟨k, rfl⟩ : ∃ m, k = m + 1 := ⟨k - 1, by omega⟩
    have hie : i = l.length := by omega
    rw [hie, List.take_length] at hs
    have f1 : fits m = true := fits_mk (by omega) (fun x hx => by have := (hmt x hx).1; omega) (fun x hx => (hmt x hx).2)
    have f2 : fits l = true := fits_mk (by omega) (fun x hx => by have := ht x hx; omega) hw
    have e : told m = told l := by unfold told; rw [hs]
    simp only [flaillaw19_RenderParts.l0]
    rw [if_neg (by omega)]
    simp only [if_true]
    rw [render_eq f1, Option.bind_some, render_eq f2, Option.bind_some, e]
    simp
  | succ d ih =>
    intro k i m hd hi hk hm hmt hs
    obtain ⟨k, rfl⟩ : ∃ m, k = m + 1 := ⟨k - 1, by omega⟩
    have hlt : i < l.length := by omega
    have hg : rd_T47 l (i : Int) = l[i] := by simp [rd_T47, hlt]
    obtain ⟨x, hx⟩ : ∃ x, l[i] = x := ⟨_, rfl⟩
    have hmem : x ∈ l := hx ▸ List.getElem_mem hlt
    have hxt := ht x hmem
    have hxw := hw x hmem
    have hst : Pg.all (l.take (i + 1)) Pg.none = (Pg.all (l.take i) Pg.none).step x := by rw [take_one' l i hlt, hx, all_snoc]
    simp only [flaillaw19_RenderParts.l0]
    rw [if_pos (by omega), if_pos (by omega), hg, hx, show wrap64 ((i : Int) + 1) = ((i + 1 : Nat) : Int) from (wrap_id (by omega)).trans (by omega)]
    by_cases h0 : x.f0 = 0
    · obtain ⟨j, hj⟩ := tmod_fit a1 ha.1 x.f2.size
      rw [if_pos h0, wrap_id (a := (x.f2.size : Int) + 1) (by omega), wrap_id (a := a1) (by omega), if_neg (by omega), hj.1, if_pos (by omega), if_pos (by omega), Option.bind_some, Int.toNat_natCast]
      have hmm := ih k (i + 1) (m ++ [tTok (x.f2.extract 0 j), cTok, tTok (x.f2.extract j x.f2.size)]) (by omega) (by omega) (by omega) (by simp; omega) (fun y hy => by
        rcases List.mem_append.1 hy with hy | hy
        · exact hmt y hy
        · simp only [List.mem_cons, List.not_mem_nil, or_false] at hy
          rcases hy with rfl | rfl | rfl
          · exact ⟨by simp [tTok, ByteArray.size_extract]; omega, show (Lit.int .i64 0).wf = true by decide⟩
          · exact ⟨by decide, by decide⟩
          · exact ⟨by simp [tTok, ByteArray.size_extract]; omega, show (Lit.int .i64 0).wf = true by decide⟩) (by
        rw [hst, ← hs, show m ++ [tTok (x.f2.extract 0 j), cTok, tTok (x.f2.extract j x.f2.size)] = ((m ++ [tTok (x.f2.extract 0 j)]) ++ [cTok]) ++ [tTok (x.f2.extract j x.f2.size)] by simp, all_snoc, all_snoc, all_snoc]
        exact step_cut _ x h0 j hj.2)
      rw [if_pos (by simp only [List.length_cons, List.length_nil]; omega)]
      exact hmm
    · rw [if_neg h0]
      by_cases h12 : x.f0 = 1 ∨ x.f0 = 2
      · have hmm := ih k (i + 1) (m ++ [⟨x.f0, x.f1, ⟨#[]⟩, [⟨⟨#[104, 105, 100, 100, 101, 110]⟩, ⟨#[]⟩⟩], false⟩]) (by omega) (by omega) (by omega) (by simp; omega) (fun y hy => by
          rcases List.mem_append.1 hy with hy | hy
          · exact hmt y hy
          · simp only [List.mem_cons, List.not_mem_nil, or_false] at hy
            subst hy
            exact ⟨by simp [ByteArray.size], hxw⟩) (by
          rw [hst, ← hs, all_snoc]
          exact step_bare _ x _ h12)
        rcases h12 with h1 | h2
        · rw [if_pos h1, if_pos (by omega)]
          exact hmm
        · rw [if_neg (by omega), if_pos h2, if_pos (by omega)]
          exact hmm
      · rw [if_neg (fun e => h12 (Or.inl e)), if_neg (fun e => h12 (Or.inr e))]
        exact ih k (i + 1) m (by omega) (by omega) (by omega) (by omega) hmt (by rw [hst, ← hs, step_none _ x h0 (fun e => h12 (Or.inl e)) (fun e => h12 (Or.inr e))])

theorem parts_pure (l : List S47) (a1 : Int) (ha : (Lit.int .u8 a1).wf = true) (hwf : ∀ x ∈ l, (Lit.int .i64 x.f0).wf = true) : flaillaw19_RenderParts.f (l.length + 1) l a1 = some true := by
  have ha' : 0 ≤ a1 ∧ a1 ≤ 255 := bounds_u8 ha
  unfold flaillaw19_RenderParts.f
  rw [Rend.awake_at, Option.bind_some, Rend.few_at, Option.bind_some]
  cases hf : Rend.fewB l with
  | false => rfl
  | true =>
    have h1 := Rend.few_all hf
    rw [if_pos rfl]
    exact parts_l l a1 ha' h1.1 (fun x hx => (h1.2 x hx).2) hwf l.length (l.length + 1) 0 [] (by omega) (by omega) (by omega) (by simp) (by simp) rfl

theorem parts_row (A : Option Addr) (len c : Nat) (a1 : Int) (w : World) (l : List S47) (hl : l.length = len) (hr : Kd.C k47 w A l.length l) (hc : len ≤ c) (hwf : ∀ x ∈ l, (Lit.int .i64 x.f0).wf = true) (w1 : (Lit.int .u8 a1).wf = true) : Calls Try.prog 12 #[.slice A len c, .int .u8 a1] w fun e w' => e = .returned (.bool true) ∧ Below w.heap.size w w' := by
  subst hl
  exact flaillaw19_RenderParts.calls (l.length + 1) A c l a1 true w hr hc (parts_pure l a1 w1 hwf)
end Go.Proofs.Ytaejicolhliecaa.HandRenderParts
