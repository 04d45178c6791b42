/- Several texts of this claim, laid together into one file. -/
import Derived.Test.YtaejicolhliecaaMPreA
import Derived.Test.YtaejicolhliecaaMPreB
import Derived.Test.YtaejicolhliecaaMPure
import Derived.Test.YtaejicolhliecaaMRendAt
import Derived.OpenShut
set_option linter.unusedSimpArgs false
set_option linter.unusedVariables false
/- Written by a program of this session out of the translation, for this claim: a part of the walk of what the law calls, or the row of the law. -/
namespace Go.Proofs.Ytaejicolhliecaa.PRe
open Go.RowKit Go.Proofs.YtaejicolhliecaaW.PrintWords Go.Proofs.YtaejicolhliecaaW.PrintLast Go.Proofs.YtaejicolhliecaaW.PrintMore
attribute [local go_sem] max2_int min2_int max_two min_two max_three min_three max_four min_four   -- for this text's walks alone
set_option linter.unusedVariables false
set_option linter.unusedSimpArgs false

/-! ### flaillaw19_RenderLines: function 13 -/
mutual
def flaillaw19_RenderLines.j0 : Nat → Bool → Bool → ByteArray → Int → Option (Bool)
  | 0, _, _, _, _ => none
  | k + 1, x1, x5, x7, x8 => (render_Render.f (([(⟨0, (⟨#[]⟩ : ByteArray), (⟨#[97, 32]⟩ : ByteArray), ([] : List (S51)), false⟩ : S47), (⟨x8, x7, (⟨#[]⟩ : ByteArray), ([] : List (S51)), false⟩ : S47), (⟨0, (⟨#[]⟩ : ByteArray), (⟨#[98]⟩ : ByteArray), ([] : List (S51)), false⟩ : S47)] : List (S47)))).bind fun t184 => ((kinds_Hides.f k x7).bind fun t185 => (if t185 = true then (flaillaw19_RenderLines.j1 k x5 x7 t184 (!x1)) else (flaillaw19_RenderLines.j1 k x5 x7 t184 false)))
def flaillaw19_RenderLines.j1 : Nat → Bool → ByteArray → ByteArray → Bool → Option (Bool)
  | 0, _, _, _, _ => none
  | k + 1, x5, x7, x9, x34 => if x34 = true then (if x5 = true then (some (x9.toList == ([97] : List UInt8))) else (some false)) else (if x7.toList = ([98, 114] : List UInt8) then (flaillaw19_RenderLines.j2 k x5 x7 x9 (⟨#[97, 32, 98]⟩ : ByteArray) true) else ((kinds_Lines.f k x7).bind fun t186 => (flaillaw19_RenderLines.j2 k x5 x7 x9 (⟨#[97, 32, 98]⟩ : ByteArray) (t186 == 1))))
def flaillaw19_RenderLines.j2 : Nat → Bool → ByteArray → ByteArray → ByteArray → Bool → Option (Bool)
  | 0, _, _, _, _, _ => none
  | k + 1, x5, x7, x9, x10, x40 => if x40 = true then (if x5 = true then (some (x9.toList == ([97, 10, 98] : List UInt8))) else (some false)) else ((kinds_Lines.f k x7).bind fun t187 => (if t187 = 2 then (if x5 = true then (some (x9.toList == ([97, 10, 10, 98] : List UInt8))) else (some false)) else (if x5 = true then (some (x9.toList == x10.toList)) else (some false))))
end
def flaillaw19_RenderLines.f (k : Nat) (a0 : Int) (a1 : Bool) : Option (Bool) := (flaillaw19_awake.f).bind fun t176 => ((flailref17_Names.f).bind fun t177 => (if (t177.length : Int) = 0 then (none) else (if 0 ≤ (Int.tmod (wrap64 (a0)) (t177.length : Int)) then (if (Int.tmod (wrap64 (a0)) (t177.length : Int)) < (t177.length : Int) then (if a1 = true then (flaillaw19_RenderLines.j0 k a1 t176 (rdOf ByteArray.empty t177 (Int.tmod (wrap64 (a0)) (t177.length : Int))) 2) else (flaillaw19_RenderLines.j0 k a1 t176 (rdOf ByteArray.empty t177 (Int.tmod (wrap64 (a0)) (t177.length : Int))) 1)) else (none)) else (none))))
theorem flaillaw19_RenderLines.mono_l : ∀ k, (∀ y0 y1 y2 y3, LeO (flaillaw19_RenderLines.j0 k y0 y1 y2 y3) (flaillaw19_RenderLines.j0 (k + 1) y0 y1 y2 y3)) ∧ (∀ y0 y1 y2 y3, LeO (flaillaw19_RenderLines.j1 k y0 y1 y2 y3) (flaillaw19_RenderLines.j1 (k + 1) y0 y1 y2 y3)) ∧ (∀ y0 y1 y2 y3 y4, LeO (flaillaw19_RenderLines.j2 k y0 y1 y2 y3 y4) (flaillaw19_RenderLines.j2 (k + 1) y0 y1 y2 y3 y4))
  | 0 => ⟨fun _ _ _ _ r h => by simp [flaillaw19_RenderLines.j0] at h, fun _ _ _ _ r h => by simp [flaillaw19_RenderLines.j1] at h, fun _ _ _ _ _ r h => by simp [flaillaw19_RenderLines.j2] at h⟩
  | k + 1 => by
    obtain ⟨ih0, ih1, ih2⟩ := flaillaw19_RenderLines.mono_l k
    refine ⟨?_, ?_, ?_⟩
    · intro y0 y1 y2 y3
      unfold flaillaw19_RenderLines.j0
      repeat' first
      | (with_reducible exact ih0 _ _ _ _)
      | (with_reducible exact ih1 _ _ _ _)
      | (with_reducible exact ih2 _ _ _ _ _)
      | (with_reducible exact kinds_Hides.mono _ _)
      | (with_reducible exact kinds_Lines.mono _ _)
      | (with_reducible exact LeO.refl _)
      | (with_reducible exact LeO.none _)
      | (with_reducible refine LeO.ite ?_ ?_)
      | (with_reducible refine LeO.bind ?_ (fun _ => ?_))
      | exact ih0 _ _ _ _
      | exact ih1 _ _ _ _
      | exact ih2 _ _ _ _ _
      | exact kinds_Hides.mono _ _
      | exact kinds_Lines.mono _ _
      | exact LeO.none _
      | refine LeO.ite ?_ ?_
      | refine LeO.bind ?_ (fun _ => ?_)
    · intro y0 y1 y2 y3
      unfold flaillaw19_RenderLines.j1
      repeat' first
      | (with_reducible exact ih0 _ _ _ _)
      | (with_reducible exact ih1 _ _ _ _)
      | (with_reducible exact ih2 _ _ _ _ _)
      | (with_reducible exact kinds_Hides.mono _ _)
      | (with_reducible exact kinds_Lines.mono _ _)
      | (with_reducible exact LeO.refl _)
      | (with_reducible exact LeO.none _)
      | (with_reducible refine LeO.ite ?_ ?_)
      | (with_reducible refine LeO.bind ?_ (fun _ => ?_))
      | exact ih0 _ _ _ _
      | exact ih1 _ _ _ _
      | exact ih2 _ _ _ _ _
      | exact kinds_Hides.mono _ _
      | exact kinds_Lines.mono _ _
      | exact LeO.none _
      | refine LeO.ite ?_ ?_
      | refine LeO.bind ?_ (fun _ => ?_)
    · intro y0 y1 y2 y3 y4
      unfold flaillaw19_RenderLines.j2
      repeat' first
      | (with_reducible exact ih0 _ _ _ _)
      | (with_reducible exact ih1 _ _ _ _)
      | (with_reducible exact ih2 _ _ _ _ _)
      | (with_reducible exact kinds_Hides.mono _ _)
      | (with_reducible exact kinds_Lines.mono _ _)
      | (with_reducible exact LeO.refl _)
      | (with_reducible exact LeO.none _)
      | (with_reducible refine LeO.ite ?_ ?_)
      | (with_reducible refine LeO.bind ?_ (fun _ => ?_))
      | exact ih0 _ _ _ _
      | exact ih1 _ _ _ _
      | exact ih2 _ _ _ _ _
      | exact kinds_Hides.mono _ _
      | exact kinds_Lines.mono _ _
      | exact LeO.none _
      | refine LeO.ite ?_ ?_
      | refine LeO.bind ?_ (fun _ => ?_)
theorem flaillaw19_RenderLines.mono : ∀ a0 a1 k, LeO (flaillaw19_RenderLines.f k a0 a1) (flaillaw19_RenderLines.f (k + 1) a0 a1) := by
  intro a0 a1 k
  obtain ⟨ih0, ih1, ih2⟩ := flaillaw19_RenderLines.mono_l k
  unfold flaillaw19_RenderLines.f
  repeat' first
      | (with_reducible exact ih0 _ _ _ _)
      | (with_reducible exact ih1 _ _ _ _)
      | (with_reducible exact ih2 _ _ _ _ _)
      | (with_reducible exact kinds_Hides.mono _ _)
      | (with_reducible exact kinds_Lines.mono _ _)
      | (with_reducible exact LeO.refl _)
      | (with_reducible exact LeO.none _)
      | (with_reducible refine LeO.ite ?_ ?_)
      | (with_reducible refine LeO.bind ?_ (fun _ => ?_))
      | exact ih0 _ _ _ _
      | exact ih1 _ _ _ _
      | exact ih2 _ _ _ _ _
      | exact kinds_Hides.mono _ _
      | exact kinds_Lines.mono _ _
      | exact LeO.none _
      | refine LeO.ite ?_ ?_
      | refine LeO.bind ?_ (fun _ => ?_)
set_option maxHeartbeats 8000000 in
set_option maxRecDepth 100000 in
theorem flaillaw19_RenderLines.calls (k : Nat) (a0 : Int) (a1 : Bool) (r : Bool) (w : World) (h : flaillaw19_RenderLines.f k a0 a1 = some r) :
    Calls Try.prog 13 #[.int .u16 a0, .bool a1] w fun e w' => e = .returned (.bool r) ∧ Below w.heap.size w w' := by
  have hu47 := Try.underlying47
  have HB := Aside0.mk (Below.refl w.heap.size w)
  have H : ((flaillaw19_awake.f).bind fun t176 => ((flailref17_Names.f).bind fun t177 => (if (t177.length : Int) = 0 then (none) else (if 0 ≤ (Int.tmod (wrap64 (a0)) (t177.length : Int)) then (if (Int.tmod (wrap64 (a0)) (t177.length : Int)) < (t177.length : Int) then (if a1 = true then (flaillaw19_RenderLines.j0 k a1 t176 (rdOf ByteArray.empty t177 (Int.tmod (wrap64 (a0)) (t177.length : Int))) 2) else (flaillaw19_RenderLines.j0 k a1 t176 (rdOf ByteArray.empty t177 (Int.tmod (wrap64 (a0)) (t177.length : Int))) 1)) else (none)) else (none))))) = some r := h
  clear h
  replace H := Option.bind_eq_some_iff.mp H
  obtain ⟨t176, A30, H⟩ := H
  replace H : ((flailref17_Names.f).bind fun t177 => (if (t177.length : Int) = 0 then (none) else (if 0 ≤ (Int.tmod (wrap64 (a0)) (t177.length : Int)) then (if (Int.tmod (wrap64 (a0)) (t177.length : Int)) < (t177.length : Int) then (if a1 = true then (flaillaw19_RenderLines.j0 k a1 t176 (rdOf ByteArray.empty t177 (Int.tmod (wrap64 (a0)) (t177.length : Int))) 2) else (flaillaw19_RenderLines.j0 k a1 t176 (rdOf ByteArray.empty t177 (Int.tmod (wrap64 (a0)) (t177.length : Int))) 1)) else (none)) else (none)))) = some r := H
  have A3 := Aside0.mk A30
  clear A30
  replace H := Option.bind_eq_some_iff.mp H
  obtain ⟨t177, A40, H⟩ := H
  replace H : (if (t177.length : Int) = 0 then (none) else (if 0 ≤ (Int.tmod (wrap64 (a0)) (t177.length : Int)) then (if (Int.tmod (wrap64 (a0)) (t177.length : Int)) < (t177.length : Int) then (if a1 = true then (flaillaw19_RenderLines.j0 k a1 t176 (rdOf ByteArray.empty t177 (Int.tmod (wrap64 (a0)) (t177.length : Int))) 2) else (flaillaw19_RenderLines.j0 k a1 t176 (rdOf ByteArray.empty t177 (Int.tmod (wrap64 (a0)) (t177.length : Int))) 1)) else (none)) else (none))) = some r := H
  have A4 := Aside0.mk A40
  clear A40
  by_cases c5 : (t177.length : Int) = 0
  · rw [if_pos c5] at H
    exact absurd H (by simp)
  · rw [if_neg c5] at H
    have c5b0 : ((t177.length : Int) == 0) = false := beq_eq_false_iff_ne.mpr c5
    have c5b1 : ((t177.length : Int) != 0) = true := bne_iff_ne.mpr c5
    have c5b2 : ¬ (t177 = []) := fun h_ => c5 (by rw [h_]; rfl)
    obtain ⟨ji6, hji6⟩ : ∃ j_ : Int, (Int.tmod (wrap64 (a0)) (t177.length : Int)) = j_ := ⟨_, rfl⟩
    replace H : (if 0 ≤ (ji6) then (if (ji6) < (t177.length : Int) then (if a1 = true then (flaillaw19_RenderLines.j0 k a1 t176 (rdOf ByteArray.empty t177 (ji6)) 2) else (flaillaw19_RenderLines.j0 k a1 t176 (rdOf ByteArray.empty t177 (ji6)) 1)) else (none)) else (none)) = some r := by first | (rw [hji6] at H; exact H) | (simp only [hji6] at H ⊢; exact H)
    (try rw [hji6] at A3)
    (try rw [hji6] at A4)
    by_cases c7 : 0 ≤ (ji6)
    · rw [if_pos c7] at H
      have c7b0 : decide (0 ≤ (ji6)) = true := decide_eq_true c7
      clear c7
      by_cases c8 : (ji6) < (t177.length : Int)
      · rw [if_pos c8] at H
        have c8b0 : decide ((ji6) < (t177.length : Int)) = true := decide_eq_true c8
        clear c8
        have HC9 := Aside0.mk H
        clear H
        go_enter Try.func13, Try.ntmps13
        go_upto_if 21 with (first | ((with_reducible refine gate_callee (f := 25) rfl ?_); refine goesL_ (some 11) rfl rfl Try.func25 (by kernel_rfl) rfl #[] rfl (by (try simp only [List.map_toArray, List.map_cons, List.map_nil]); first | done | rfl | (simp only [List.length_drop, List.length_take]; rfl)) ?_; (with_reducible refine (flaillaw19_awake.calls  t176 _ A3.out).mono ?_); rintro e w10 ⟨rfl, hb⟩; refine ⟨_, rfl, ?_⟩; have n0_ := Aside0.mk (below_step (by repeat (first | (with_reducible first | exact HB.out | apply below_alloc | apply pw_below_drewN | apply below_drew1) | exact HB.out)) hb); clear HB; have HB := n0_; clear n0_; (try clear hb); (try clear hb2); (try clear hk); (try clear hi)) | ((with_reducible refine gate_callee (f := 30) rfl ?_); refine goesL_ (some 12) rfl rfl Try.func30 (by kernel_rfl) rfl #[] rfl (by (try simp only [List.map_toArray, List.map_cons, List.map_nil]); first | done | rfl | (simp only [List.length_drop, List.length_take]; rfl)) ?_; (with_reducible refine (flailref17_Names.calls  t177 _ A4.out).mono ?_); rintro e w11 ⟨v178, rfl, ho0, hb⟩; refine ⟨_, rfl, ?_⟩; have n0_ := Aside0.mk (Kd.R_lower ho0 (below_size (by repeat (first | (with_reducible first | exact HB.out | apply below_alloc | apply pw_below_drewN | apply below_drew1) | exact HB.out)))); have n1_ := Aside0.mk (below_step (by repeat (first | (with_reducible first | exact HB.out | apply below_alloc | apply pw_below_drewN | apply below_drew1) | exact HB.out)) hb); clear HB; have HO179 := n0_; have HB := n1_; clear n0_ n1_; (try clear hb); (try clear hb2); (try clear hk); (try clear hi); (try clear ho0); obtain ⟨Ao12, co12, eo12⟩ := Kd.R_slice HO179.out; subst eo12; have p180 : 0 ≤ ((ji6) : Int) := of_decide_eq_true (by first | (with_reducible assumption) | assumption); have q180 : (ji6) < (t177.length : Int) := of_decide_eq_true (by first | (with_reducible assumption) | assumption); obtain ⟨ad180, e180, hx180_0⟩ := Kd.at_string (Kd.R_reads' HO179.out).2.2 (ji6) p180 q180; cases e180; replace p180 := eq_true p180; replace q180 := eq_true q180))
        (try simp only [Act.put, List.setIfInBounds_toArray, List.set_cons_zero, List.set_cons_succ])
        go_cut [8] (fun v8 wc => ∃ (kq : Nat) (x8_8 : Int), v8 = .int .i64 x8_8 ∧ Aside0 (flaillaw19_RenderLines.j0 kq a1 t176 (rdOf ByteArray.empty t177 (ji6)) x8_8 = some r) ∧ Aside0 (kq ≤ k) ∧ Aside0 (Below w.heap.size w wc))
        case first =>
          have H := HC9.out
          clear HC9
          by_cases c13 : a1 = true
          · subst c13
            have H1 : (flaillaw19_RenderLines.j0 k true t176 (rdOf ByteArray.empty t177 (ji6)) 2) = some r := by rw [if_pos rfl] at H; exact H
            clear H
            have H := H1
            clear H1
            have H' := Aside0.mk H
            clear H
            go_wp2
            go_meet
            case rel => exact ⟨_, (2), (by first | rfl | (simp; done) | (simp [*]; done)), H', ⟨by first | omega | exact Nat.le_refl _⟩, ⟨by repeat (first | (with_reducible first | exact HB.out | apply below_alloc | apply pw_below_drewN | apply below_drew1) | exact HB.out)⟩⟩
          · replace c13 := Bool.eq_false_iff.mpr c13
            subst c13
            have H1 : (flaillaw19_RenderLines.j0 k false t176 (rdOf ByteArray.empty t177 (ji6)) 1) = some r := by rw [if_neg (show ¬ (false = true) by decide)] at H; exact H
            clear H
            have H := H1
            clear H1
            have H' := Aside0.mk H
            clear H
            go_wp2
            go_meet
            case rel => exact ⟨_, (1), (by first | rfl | (simp; done) | (simp [*]; done)), H', ⟨by first | omega | exact Nat.le_refl _⟩, ⟨by repeat (first | (with_reducible first | exact HB.out | apply below_alloc | apply pw_below_drewN | apply below_drew1) | exact HB.out)⟩⟩
        case rest =>
          clear HC9
          try clear c1
          try clear p1
          try clear q1
          try clear hx1
          try clear c2
          try clear p2
          try clear c3
          try clear c5
          try clear c5b0
          try clear c5b1
          try clear c5b2
          try clear p6
          try clear c7
          try clear c7b0
          try clear c8
          try clear c8b0
          try clear c13
          try clear hx180_0
          try clear p180
          try clear q180
          obtain ⟨kq, x8_8, rfl, HA, HJ8, HB⟩ := hcut
          cases kq with
          | zero => exact absurd HA.out (by simp [flaillaw19_RenderLines.j0])
          | succ kj8 =>
            have H := HA.out
            clear HA
            simp only [flaillaw19_RenderLines.j0] at H
            obtain ⟨y181, hy181⟩ : ∃ y_ : List (S47), y_ = (([(⟨0, (⟨#[]⟩ : ByteArray), (⟨#[97, 32]⟩ : ByteArray), ([] : List (S51)), false⟩ : S47), (⟨x8_8, (rdOf ByteArray.empty t177 (ji6)), (⟨#[]⟩ : ByteArray), ([] : List (S51)), false⟩ : S47), (⟨0, (⟨#[]⟩ : ByteArray), (⟨#[98]⟩ : ByteArray), ([] : List (S51)), false⟩ : S47)] : List (S47))) := ⟨_, rfl⟩
            replace H : ((render_Render.f y181).bind fun t184 => ((kinds_Hides.f kj8 (rdOf ByteArray.empty t177 (ji6))).bind fun t185 => (if t185 = true then (flaillaw19_RenderLines.j1 kj8 t176 (rdOf ByteArray.empty t177 (ji6)) t184 (!a1)) else (flaillaw19_RenderLines.j1 kj8 t176 (rdOf ByteArray.empty t177 (ji6)) t184 false)))) = some r := by first | (rw [hy181]; with_reducible exact H) | (have H2_ := (Option.bind_some _ _).symm.trans H; rw [hy181]; with_reducible exact H2_) | (have H2_ := (Option.bind_some _ _).symm.trans H; with_reducible exact H2_) | with_reducible exact H | (rw [hy181]; exact H) | exact H
            have Ny181 := Aside0.mk hy181
            clear hy181
            replace H := Option.bind_eq_some_iff.mp H
            obtain ⟨t184, A140, H⟩ := H
            replace H : ((kinds_Hides.f kj8 (rdOf ByteArray.empty t177 (ji6))).bind fun t185 => (if t185 = true then (flaillaw19_RenderLines.j1 kj8 t176 (rdOf ByteArray.empty t177 (ji6)) t184 (!a1)) else (flaillaw19_RenderLines.j1 kj8 t176 (rdOf ByteArray.empty t177 (ji6)) t184 false))) = some r := H
            have A14 := Aside0.mk A140
            clear A140
            have HC15 := Aside0.mk H
            clear H
            go_upto_region 8 with (first | ((with_reducible refine gate_dst (N := 27) rfl ?_); refine Kd.S_lit k47 _ 47 ?hg (N := 27) ?hd (xs := ([(⟨0, (⟨#[]⟩ : ByteArray), (⟨#[97, 32]⟩ : ByteArray), ([] : List (S51)), false⟩ : S47), (⟨x8_8, (rdOf ByteArray.empty t177 (ji6)), (⟨#[]⟩ : ByteArray), ([] : List (S51)), false⟩ : S47), (⟨0, (⟨#[]⟩ : ByteArray), (⟨#[98]⟩ : ByteArray), ([] : List (S51)), false⟩ : S47)] : List (S47))) (inner := [.int .i64 0, .string (⟨#[]⟩ : ByteArray), .string (⟨#[97, 32]⟩ : ByteArray), .slice none 0 0, .bool false, .int .i64 x8_8, .string (rdOf ByteArray.empty t177 (ji6)), .string (⟨#[]⟩ : ByteArray), .slice none 0 0, .bool false, .int .i64 0, .string (⟨#[]⟩ : ByteArray), .string (⟨#[98]⟩ : ByteArray), .slice none 0 0, .bool false]) (ok := fun _ => True) (okp := fun _ => True) ?hr ?hp (fun _ hk => hk) trivial (Below.refl _ _) (Nat.le_refl _) (by simp) ?_; (case hd => rfl); (case hg => rfl); (case hr => first | (go_simp; done) | (go_simp; rfl)); (case hp => exact (Reps.c5 (show Kd.M k47 _ _ _ (⟨0, (⟨#[]⟩ : ByteArray), (⟨#[97, 32]⟩ : ByteArray), ([] : List (S51)), false⟩ : S47) [.int .i64 0, .string (⟨#[]⟩ : ByteArray), .string (⟨#[97, 32]⟩ : ByteArray), .slice none 0 0, .bool false] from (k47_mkM _ _ _ (⟨0, (⟨#[]⟩ : ByteArray), (⟨#[97, 32]⟩ : ByteArray), ([] : List (S51)), false⟩ : S47) (Kd.R_nil _ _ _ _ _))) (Reps.c5 (show Kd.M k47 _ _ _ (⟨x8_8, (rdOf ByteArray.empty t177 (ji6)), (⟨#[]⟩ : ByteArray), ([] : List (S51)), false⟩ : S47) [.int .i64 x8_8, .string (rdOf ByteArray.empty t177 (ji6)), .string (⟨#[]⟩ : ByteArray), .slice none 0 0, .bool false] from (k47_mkM _ _ _ (⟨x8_8, (rdOf ByteArray.empty t177 (ji6)), (⟨#[]⟩ : ByteArray), ([] : List (S51)), false⟩ : S47) (Kd.R_nil _ _ _ _ _))) (Reps.c5 (show Kd.M k47 _ _ _ (⟨0, (⟨#[]⟩ : ByteArray), (⟨#[98]⟩ : ByteArray), ([] : List (S51)), false⟩ : S47) [.int .i64 0, .string (⟨#[]⟩ : ByteArray), .string (⟨#[98]⟩ : ByteArray), .slice none 0 0, .bool false] from (k47_mkM _ _ _ (⟨0, (⟨#[]⟩ : ByteArray), (⟨#[98]⟩ : ByteArray), ([] : List (S51)), false⟩ : S47) (Kd.R_nil _ _ _ _ _))) (Reps.none _ _))))); intro v182 w16 ho17 hb hg_ hnew_; clear hg_ hnew_; (first | rw [← Ny181.out] at ho17 | (simp only [Int.reduceToNat] at ho17; rw [← Ny181.out] at ho17)); have n0_ := Aside0.mk (Kd.S_lower ho17 (below_size (by repeat (first | (with_reducible first | exact HB.out | apply below_alloc | apply pw_below_drewN | apply below_drew1) | exact HB.out)))); have n1_ := Aside0.mk (below_step (by repeat (first | (with_reducible first | exact HB.out | apply below_alloc | apply pw_below_drewN | apply below_drew1) | exact HB.out)) hb); clear HB; have HO183 := n0_; have HB := n1_; clear n0_ n1_; clear hb ho17; obtain ⟨Ao18, co18, eo18⟩ := Kd.S_slice HO183.out; subst eo18) | ((with_reducible refine gate_callee (f := 27) rfl ?_); refine goesL_ (some 28) rfl rfl Try.func27 (by kernel_rfl) rfl #[.slice Ao18 y181.length co18] rfl (by (try simp only [List.map_toArray, List.map_cons, List.map_nil]); first | done | rfl | (simp only [List.length_drop, List.length_take]; rfl)) ?_; (with_reducible refine (render_Render.calls _ _ y181 t184 _ ?side1 ?side2 A14.out).mono ?_); (case side1 => repeat (first | exact (Kd.S_reads' HO183.out).2.2 | (with_reducible refine Kd.C_alloc ?_ _) | (with_reducible refine Kd.C_drewN ?_ _) | (with_reducible refine Kd.C_drew ?_))); (case side2 => exact (Kd.S_reads' HO183.out).2.1); rintro e w19 ⟨rfl, hb⟩; refine ⟨_, rfl, ?_⟩; have n0_ := Aside0.mk (Kd.S_below (by (with_reducible repeat (first | apply Kd.S_alloc | apply Kd.S_drewN | apply Kd.S_drew)); exact HO183.out) hb); have n1_ := Aside0.mk (below_step (by repeat (first | (with_reducible first | exact HB.out | apply below_alloc | apply pw_below_drewN | apply below_drew1) | exact HB.out)) hb); clear HO183; clear HB; have HO183 := n0_; have HB := n1_; clear n0_ n1_; (try clear hb); (try clear hb2); (try clear hk); (try clear hi)))
            (try simp only [Act.put, List.setIfInBounds_toArray, List.set_cons_zero, List.set_cons_succ])
            go_cut [34] (fun v34 wc => ∃ (kq : Nat) (x34_14 : Bool), v34 = .bool x34_14 ∧ Aside0 (flaillaw19_RenderLines.j1 kq t176 (rdOf ByteArray.empty t177 (ji6)) t184 x34_14 = some r) ∧ Aside0 (kq ≤ kj8) ∧ Aside0 (Below w.heap.size w wc))
            case first =>
              have H := HC15.out
              clear HC15
              replace H := Option.bind_eq_some_iff.mp H
              obtain ⟨t185, A200, H⟩ := H
              replace H : (if t185 = true then (flaillaw19_RenderLines.j1 kj8 t176 (rdOf ByteArray.empty t177 (ji6)) t184 (!a1)) else (flaillaw19_RenderLines.j1 kj8 t176 (rdOf ByteArray.empty t177 (ji6)) t184 false)) = some r := H
              have A20 := Aside0.mk A200
              clear A200
              by_cases c21 : t185 = true
              · subst c21
                have H1 : (flaillaw19_RenderLines.j1 kj8 t176 (rdOf ByteArray.empty t177 (ji6)) t184 (!a1)) = some r := by rw [if_pos rfl] at H; exact H
                clear H
                have H := H1
                clear H1
                have H' := Aside0.mk H
                clear H
                go_wp2_with (first | ((with_reducible refine gate_callee (f := 29) rfl ?_); refine goesL_ (some 30) rfl rfl Try.func29 (by kernel_rfl) rfl #[.string (rdOf ByteArray.empty t177 (ji6))] rfl (by (try simp only [List.map_toArray, List.map_cons, List.map_nil]); first | done | (simp only [hji6]; rfl) | rfl | (simp only [List.length_drop, List.length_take]; rfl)) ?_; (with_reducible refine (kinds_Hides.calls kj8 (rdOf ByteArray.empty t177 (ji6)) true _ A20.out).mono ?_); rintro e w22 ⟨rfl, hb⟩; refine ⟨_, rfl, ?_⟩; have n0_ := Aside0.mk (Kd.S_below (by (with_reducible repeat (first | apply Kd.S_alloc | apply Kd.S_drewN | apply Kd.S_drew)); exact HO183.out) hb); have n1_ := Aside0.mk (below_step (by repeat (first | (with_reducible first | exact HB.out | apply below_alloc | apply pw_below_drewN | apply below_drew1) | exact HB.out)) hb); clear HO183; clear HB; have HO183 := n0_; have HB := n1_; clear n0_ n1_; (try clear hb); (try clear hb2); (try clear hk); (try clear hi)))
                go_meet
                case rel => exact ⟨_, (!a1), (by first | rfl | (simp; done) | (simp [*]; done)), H', ⟨by have := HJ8.out; first | omega | exact Nat.le_refl _⟩, ⟨by repeat (first | (with_reducible first | exact HB.out | apply below_alloc | apply pw_below_drewN | apply below_drew1) | exact HB.out)⟩⟩
              · replace c21 := Bool.eq_false_iff.mpr c21
                subst c21
                have H1 : (flaillaw19_RenderLines.j1 kj8 t176 (rdOf ByteArray.empty t177 (ji6)) t184 false) = some r := by rw [if_neg (show ¬ (false = true) by decide)] at H; exact H
                clear H
                have H := H1
                clear H1
                have H' := Aside0.mk H
                clear H
                go_wp2_with (first | ((with_reducible refine gate_callee (f := 29) rfl ?_); refine goesL_ (some 30) rfl rfl Try.func29 (by kernel_rfl) rfl #[.string (rdOf ByteArray.empty t177 (ji6))] rfl (by (try simp only [List.map_toArray, List.map_cons, List.map_nil]); first | done | (simp only [hji6]; rfl) | rfl | (simp only [List.length_drop, List.length_take]; rfl)) ?_; (with_reducible refine (kinds_Hides.calls kj8 (rdOf ByteArray.empty t177 (ji6)) false _ A20.out).mono ?_); rintro e w23 ⟨rfl, hb⟩; refine ⟨_, rfl, ?_⟩; have n0_ := Aside0.mk (Kd.S_below (by (with_reducible repeat (first | apply Kd.S_alloc | apply Kd.S_drewN | apply Kd.S_drew)); exact HO183.out) hb); have n1_ := Aside0.mk (below_step (by repeat (first | (with_reducible first | exact HB.out | apply below_alloc | apply pw_below_drewN | apply below_drew1) | exact HB.out)) hb); clear HO183; clear HB; have HO183 := n0_; have HB := n1_; clear n0_ n1_; (try clear hb); (try clear hb2); (try clear hk); (try clear hi)))
                go_meet
                case rel => exact ⟨_, (false), (by first | rfl | (simp; done) | (simp [*]; done)), H', ⟨by have := HJ8.out; first | omega | exact Nat.le_refl _⟩, ⟨by repeat (first | (with_reducible first | exact HB.out | apply below_alloc | apply pw_below_drewN | apply below_drew1) | exact HB.out)⟩⟩
            case rest =>
              clear HC15
              try clear c1
              try clear p1
              try clear q1
              try clear hx1
              try clear c2
              try clear p2
              try clear c3
              try clear c5
              try clear c5b0
              try clear c5b1
              try clear c5b2
              try clear p6
              try clear c7
              try clear c7b0
              try clear c8
              try clear c8b0
              try clear c13
              try clear p18
              try clear q18
              try clear hx18
              try clear c21
              try clear hx180_0
              try clear p1
              try clear p180
              try clear p2
              try clear p6
              try clear q1
              try clear q180
              obtain ⟨kq, x34_14, rfl, HA, HJ14, HB⟩ := hcut
              cases kq with
              | zero => exact absurd HA.out (by simp [flaillaw19_RenderLines.j1])
              | succ kj14 =>
                have H := HA.out
                clear HA
                simp only [flaillaw19_RenderLines.j1] at H
                by_cases c24 : x34_14 = true
                · subst c24
                  have H1 : (if t176 = true then (some (t184.toList == ([97] : List UInt8))) else (some false)) = some r := by rw [if_pos rfl] at H; exact H
                  clear H
                  have H := H1
                  clear H1
                  by_cases c25 : t176 = true
                  · subst c25
                    have H1 : (some (t184.toList == ([97] : List UInt8))) = some r := by rw [if_pos rfl] at H; exact H
                    clear H
                    have H := H1
                    clear H1
                    obtain rfl := Option.some.inj H
                    go_wp2
                    go_ret
                    exact ⟨by first | rfl | (simp [errW_none, errW_some] <;> rfl) | (simp only [← hji6]; first | rfl | (simp [errW_none, errW_some] <;> rfl)) | (simp [*, errW_none, errW_some] <;> rfl), by repeat (first | (with_reducible first | exact HB.out | apply below_alloc | apply pw_below_drewN | apply below_drew1) | exact HB.out)⟩
                  · replace c25 := Bool.eq_false_iff.mpr c25
                    subst c25
                    have H1 : (some false) = some r := by rw [if_neg (show ¬ (false = true) by decide)] at H; exact H
                    clear H
                    have H := H1
                    clear H1
                    obtain rfl := Option.some.inj H
                    go_wp2
                    go_ret
                    exact ⟨by first | rfl | (simp [errW_none, errW_some] <;> rfl) | (simp only [← hji6]; first | rfl | (simp [errW_none, errW_some] <;> rfl)) | (simp [*, errW_none, errW_some] <;> rfl), by repeat (first | (with_reducible first | exact HB.out | apply below_alloc | apply pw_below_drewN | apply below_drew1) | exact HB.out)⟩
                · replace c24 := Bool.eq_false_iff.mpr c24
                  subst c24
                  have H1 : (if (rdOf ByteArray.empty t177 (ji6)).toList = ([98, 114] : List UInt8) then (flaillaw19_RenderLines.j2 kj14 t176 (rdOf ByteArray.empty t177 (ji6)) t184 (⟨#[97, 32, 98]⟩ : ByteArray) true) else ((kinds_Lines.f kj14 (rdOf ByteArray.empty t177 (ji6))).bind fun t186 => (flaillaw19_RenderLines.j2 kj14 t176 (rdOf ByteArray.empty t177 (ji6)) t184 (⟨#[97, 32, 98]⟩ : ByteArray) (t186 == 1)))) = some r := by rw [if_neg (show ¬ (false = true) by decide)] at H; exact H
                  clear H
                  have H := H1
                  clear H1
                  have HC26 := Aside0.mk H
                  clear H
                  go_upto_region 11 with (fail)
                  go_cut [40] (fun v40 wc => ∃ (kq : Nat) (x40_25 : Bool), v40 = .bool x40_25 ∧ Aside0 (flaillaw19_RenderLines.j2 kq t176 (rdOf ByteArray.empty t177 (ji6)) t184 (⟨#[97, 32, 98]⟩ : ByteArray) x40_25 = some r) ∧ Aside0 (kq ≤ kj14) ∧ Aside0 (Below w.heap.size w wc))
                  case first =>
                    have H := HC26.out
                    clear HC26
                    by_cases c27 : (rdOf ByteArray.empty t177 (ji6)).toList = ([98, 114] : List UInt8)
                    · rw [if_pos c27] at H
                      have c27b0 : ((rdOf ByteArray.empty t177 (ji6)).toList == ([98, 114] : List UInt8)) = true := beq_iff_eq.mpr c27
                      have c27b1 : ((rdOf ByteArray.empty t177 (ji6)).toList != ([98, 114] : List UInt8)) = false := bne_eq_false_iff_eq.mpr c27
                      clear c27
                      (first | rw [c27b0] | (simp only [i64_w, i32_w]; rw [c27b0]) | skip)
                      have H' := Aside0.mk H
                      clear H
                      go_wp2
                      go_meet
                      case rel => exact ⟨_, (true), (by first | rfl | (simp; done) | (simp [*]; done)), H', ⟨by have := HJ8.out; have := HJ14.out; first | omega | exact Nat.le_refl _⟩, ⟨by repeat (first | (with_reducible first | exact HB.out | apply below_alloc | apply pw_below_drewN | apply below_drew1) | exact HB.out)⟩⟩
                    · rw [if_neg c27] at H
                      have c27b0 : ((rdOf ByteArray.empty t177 (ji6)).toList == ([98, 114] : List UInt8)) = false := beq_eq_false_iff_ne.mpr c27
                      have c27b1 : ((rdOf ByteArray.empty t177 (ji6)).toList != ([98, 114] : List UInt8)) = true := bne_iff_ne.mpr c27
                      (first | rw [c27b0] | (simp only [i64_w, i32_w]; rw [c27b0]) | skip)
                      replace H := Option.bind_eq_some_iff.mp H
                      obtain ⟨t186, A280, H⟩ := H
                      replace H : (flaillaw19_RenderLines.j2 kj14 t176 (rdOf ByteArray.empty t177 (ji6)) t184 (⟨#[97, 32, 98]⟩ : ByteArray) (t186 == 1)) = some r := H
                      have A28 := Aside0.mk A280
                      clear A280
                      have H' := Aside0.mk H
                      clear H
                      go_wp2_with (first | (go_at_call 31; (with_reducible refine (kinds_Lines.calls kj14 (rdOf ByteArray.empty t177 (ji6)) t186 _ A28.out).mono ?_); rintro e w29 ⟨rfl, hb⟩; have n0_ := Aside0.mk (below_step (by repeat (first | (with_reducible first | exact HB.out | apply below_alloc | apply pw_below_drewN | apply below_drew1) | exact HB.out)) hb); clear HB; have HB := n0_; clear n0_; (try clear hb); (try clear hb2); (try clear hk); (try clear hi)))
                      go_meet
                      case rel => exact ⟨_, ((t186 == 1)), (by first | rfl | (simp; done) | (simp [*]; done)), H', ⟨by have := HJ8.out; have := HJ14.out; first | omega | exact Nat.le_refl _⟩, ⟨by repeat (first | (with_reducible first | exact HB.out | apply below_alloc | apply pw_below_drewN | apply below_drew1) | exact HB.out)⟩⟩
                  case rest =>
                    clear HC26
                    try clear c1
                    try clear p1
                    try clear q1
                    try clear hx1
                    try clear c2
                    try clear p2
                    try clear c3
                    try clear c5
                    try clear c5b0
                    try clear c5b1
                    try clear c5b2
                    try clear p6
                    try clear c7
                    try clear c7b0
                    try clear c8
                    try clear c8b0
                    try clear c13
                    try clear p18
                    try clear q18
                    try clear hx18
                    try clear c21
                    try clear c24
                    try clear c25
                    try clear c27
                    try clear c27b0
                    try clear c27b1
                    try clear c29
                    try clear hx180_0
                    try clear p1
                    try clear p18
                    try clear p180
                    try clear p2
                    try clear p6
                    try clear q1
                    try clear q18
                    try clear q180
                    obtain ⟨kq, x40_25, rfl, HA, HJ25, HB⟩ := hcut
                    cases kq with
                    | zero => exact absurd HA.out (by simp [flaillaw19_RenderLines.j2])
                    | succ kj25 =>
                      have H := HA.out
                      clear HA
                      simp only [flaillaw19_RenderLines.j2] at H
                      by_cases c30 : x40_25 = true
                      · subst c30
                        have H1 : (if t176 = true then (some (t184.toList == ([97, 10, 98] : List UInt8))) else (some false)) = some r := by rw [if_pos rfl] at H; exact H
                        clear H
                        have H := H1
                        clear H1
                        by_cases c31 : t176 = true
                        · subst c31
                          have H1 : (some (t184.toList == ([97, 10, 98] : List UInt8))) = some r := by rw [if_pos rfl] at H; exact H
                          clear H
                          have H := H1
                          clear H1
                          obtain rfl := Option.some.inj H
                          go_wp2
                          go_ret
                          exact ⟨by first | rfl | (simp [errW_none, errW_some] <;> rfl) | (simp only [← hji6]; first | rfl | (simp [errW_none, errW_some] <;> rfl)) | (simp [*, errW_none, errW_some] <;> rfl), by repeat (first | (with_reducible first | exact HB.out | apply below_alloc | apply pw_below_drewN | apply below_drew1) | exact HB.out)⟩
                        · replace c31 := Bool.eq_false_iff.mpr c31
                          subst c31
                          have H1 : (some false) = some r := by rw [if_neg (show ¬ (false = true) by decide)] at H; exact H
                          clear H
                          have H := H1
                          clear H1
                          obtain rfl := Option.some.inj H
                          go_wp2
                          go_ret
                          exact ⟨by first | rfl | (simp [errW_none, errW_some] <;> rfl) | (simp only [← hji6]; first | rfl | (simp [errW_none, errW_some] <;> rfl)) | (simp [*, errW_none, errW_some] <;> rfl), by repeat (first | (with_reducible first | exact HB.out | apply below_alloc | apply pw_below_drewN | apply below_drew1) | exact HB.out)⟩
                      · replace c30 := Bool.eq_false_iff.mpr c30
                        subst c30
                        have H1 : ((kinds_Lines.f kj25 (rdOf ByteArray.empty t177 (ji6))).bind fun t187 => (if t187 = 2 then (if t176 = true then (some (t184.toList == ([97, 10, 10, 98] : List UInt8))) else (some false)) else (if t176 = true then (some (t184.toList == (⟨#[97, 32, 98]⟩ : ByteArray).toList)) else (some false)))) = some r := by rw [if_neg (show ¬ (false = true) by decide)] at H; exact H
                        clear H
                        have H := H1
                        clear H1
                        replace H := Option.bind_eq_some_iff.mp H
                        obtain ⟨t187, A320, H⟩ := H
                        replace H : (if t187 = 2 then (if t176 = true then (some (t184.toList == ([97, 10, 10, 98] : List UInt8))) else (some false)) else (if t176 = true then (some (t184.toList == (⟨#[97, 32, 98]⟩ : ByteArray).toList)) else (some false))) = some r := H
                        have A32 := Aside0.mk A320
                        clear A320
                        by_cases c33 : t187 = 2
                        · rw [if_pos c33] at H
                          have c33b0 : (t187 == 2) = true := beq_iff_eq.mpr c33
                          have c33b1 : (t187 != 2) = false := bne_eq_false_iff_eq.mpr c33
                          clear c33
                          by_cases c34 : t176 = true
                          · subst c34
                            have H1 : (some (t184.toList == ([97, 10, 10, 98] : List UInt8))) = some r := by rw [if_pos rfl] at H; exact H
                            clear H
                            have H := H1
                            clear H1
                            obtain rfl := Option.some.inj H
                            go_wp2_with (first | ((with_reducible refine gate_callee (f := 31) rfl ?_); refine goesL_ (some 50) rfl rfl Try.func31 (by kernel_rfl) rfl #[.string (rdOf ByteArray.empty t177 (ji6))] rfl (by (try simp only [List.map_toArray, List.map_cons, List.map_nil]); first | done | (simp only [hji6]; rfl) | rfl | (simp only [List.length_drop, List.length_take]; rfl)) ?_; (with_reducible refine (kinds_Lines.calls kj25 (rdOf ByteArray.empty t177 (ji6)) t187 _ A32.out).mono ?_); rintro e w35 ⟨rfl, hb⟩; refine ⟨_, rfl, ?_⟩; have n0_ := Aside0.mk (below_step (by repeat (first | (with_reducible first | exact HB.out | apply below_alloc | apply pw_below_drewN | apply below_drew1) | exact HB.out)) hb); clear HB; have HB := n0_; clear n0_; (try clear hb); (try clear hb2); (try clear hk); (try clear hi)))
                            go_ret
                            exact ⟨by first | rfl | (simp [errW_none, errW_some] <;> rfl) | (simp only [← hji6]; first | rfl | (simp [errW_none, errW_some] <;> rfl)) | (simp [*, errW_none, errW_some] <;> rfl), by repeat (first | (with_reducible first | exact HB.out | apply below_alloc | apply pw_below_drewN | apply below_drew1) | exact HB.out)⟩
                          · replace c34 := Bool.eq_false_iff.mpr c34
                            subst c34
                            have H1 : (some false) = some r := by rw [if_neg (show ¬ (false = true) by decide)] at H; exact H
                            clear H
                            have H := H1
                            clear H1
                            obtain rfl := Option.some.inj H
                            go_wp2_with (first | ((with_reducible refine gate_callee (f := 31) rfl ?_); refine goesL_ (some 50) rfl rfl Try.func31 (by kernel_rfl) rfl #[.string (rdOf ByteArray.empty t177 (ji6))] rfl (by (try simp only [List.map_toArray, List.map_cons, List.map_nil]); first | done | (simp only [hji6]; rfl) | rfl | (simp only [List.length_drop, List.length_take]; rfl)) ?_; (with_reducible refine (kinds_Lines.calls kj25 (rdOf ByteArray.empty t177 (ji6)) t187 _ A32.out).mono ?_); rintro e w36 ⟨rfl, hb⟩; refine ⟨_, rfl, ?_⟩; have n0_ := Aside0.mk (below_step (by repeat (first | (with_reducible first | exact HB.out | apply below_alloc | apply pw_below_drewN | apply below_drew1) | exact HB.out)) hb); clear HB; have HB := n0_; clear n0_; (try clear hb); (try clear hb2); (try clear hk); (try clear hi)))
                            go_ret
                            exact ⟨by first | rfl | (simp [errW_none, errW_some] <;> rfl) | (simp only [← hji6]; first | rfl | (simp [errW_none, errW_some] <;> rfl)) | (simp [*, errW_none, errW_some] <;> rfl), by repeat (first | (with_reducible first | exact HB.out | apply below_alloc | apply pw_below_drewN | apply below_drew1) | exact HB.out)⟩
                        · rw [if_neg c33] at H
                          have c33b0 : (t187 == 2) = false := beq_eq_false_iff_ne.mpr c33
                          have c33b1 : (t187 != 2) = true := bne_iff_ne.mpr c33
                          by_cases c37 : t176 = true
                          · subst c37
                            have H1 : (some (t184.toList == (⟨#[97, 32, 98]⟩ : ByteArray).toList)) = some r := by rw [if_pos rfl] at H; exact H
                            clear H
                            have H := H1
                            clear H1
                            obtain rfl := Option.some.inj H
                            go_wp2_with (first | ((with_reducible refine gate_callee (f := 31) rfl ?_); refine goesL_ (some 50) rfl rfl Try.func31 (by kernel_rfl) rfl #[.string (rdOf ByteArray.empty t177 (ji6))] rfl (by (try simp only [List.map_toArray, List.map_cons, List.map_nil]); first | done | (simp only [hji6]; rfl) | rfl | (simp only [List.length_drop, List.length_take]; rfl)) ?_; (with_reducible refine (kinds_Lines.calls kj25 (rdOf ByteArray.empty t177 (ji6)) t187 _ A32.out).mono ?_); rintro e w38 ⟨rfl, hb⟩; refine ⟨_, rfl, ?_⟩; have n0_ := Aside0.mk (below_step (by repeat (first | (with_reducible first | exact HB.out | apply below_alloc | apply pw_below_drewN | apply below_drew1) | exact HB.out)) hb); clear HB; have HB := n0_; clear n0_; (try clear hb); (try clear hb2); (try clear hk); (try clear hi)))
                            go_ret
                            exact ⟨by first | rfl | (simp [errW_none, errW_some] <;> rfl) | (simp only [← hji6]; first | rfl | (simp [errW_none, errW_some] <;> rfl)) | (simp [*, errW_none, errW_some] <;> rfl), by repeat (first | (with_reducible first | exact HB.out | apply below_alloc | apply pw_below_drewN | apply below_drew1) | exact HB.out)⟩
                          · replace c37 := Bool.eq_false_iff.mpr c37
                            subst c37
                            have H1 : (some false) = some r := by rw [if_neg (show ¬ (false = true) by decide)] at H; exact H
                            clear H
                            have H := H1
                            clear H1
                            obtain rfl := Option.some.inj H
                            go_wp2_with (first | ((with_reducible refine gate_callee (f := 31) rfl ?_); refine goesL_ (some 50) rfl rfl Try.func31 (by kernel_rfl) rfl #[.string (rdOf ByteArray.empty t177 (ji6))] rfl (by (try simp only [List.map_toArray, List.map_cons, List.map_nil]); first | done | (simp only [hji6]; rfl) | rfl | (simp only [List.length_drop, List.length_take]; rfl)) ?_; (with_reducible refine (kinds_Lines.calls kj25 (rdOf ByteArray.empty t177 (ji6)) t187 _ A32.out).mono ?_); rintro e w39 ⟨rfl, hb⟩; refine ⟨_, rfl, ?_⟩; have n0_ := Aside0.mk (below_step (by repeat (first | (with_reducible first | exact HB.out | apply below_alloc | apply pw_below_drewN | apply below_drew1) | exact HB.out)) hb); clear HB; have HB := n0_; clear n0_; (try clear hb); (try clear hb2); (try clear hk); (try clear hi)))
                            go_ret
                            exact ⟨by first | rfl | (simp [errW_none, errW_some] <;> rfl) | (simp only [← hji6]; first | rfl | (simp [errW_none, errW_some] <;> rfl)) | (simp [*, errW_none, errW_some] <;> rfl), by repeat (first | (with_reducible first | exact HB.out | apply below_alloc | apply pw_below_drewN | apply below_drew1) | exact HB.out)⟩
      · rw [if_neg c8] at H
        exact absurd H (by simp)
    · rw [if_neg c7] at H
      exact absurd H (by simp)

/-- THE ONE PURE STATEMENT of flaillaw19_RenderLines: yours. -/
def flaillaw19_RenderLines.Pure : Prop := ∀ (a0 : Int) (a1 : Bool), (Lit.int .u16 a0).wf = true → ∃ k, flaillaw19_RenderLines.f k a0 a1 = some true
theorem flaillaw19_RenderLines.walk (P : flaillaw19_RenderLines.Pure) (a0 : Int) (a1 : Bool) (w : World) (w0 : (Lit.int .u16 a0).wf = true) :
    Calls Try.prog 13 #[.int .u16 a0, .bool a1] w fun e w' => e = .returned (.bool true) ∧ Below w.heap.size w w' := by
  obtain ⟨k, h⟩ := P a0 a1 w0
  refine (flaillaw19_RenderLines.calls k a0 a1 true w h).mono ?_
  rintro e w' ⟨rfl, hd⟩
  exact ⟨rfl, hd⟩

end Go.Proofs.Ytaejicolhliecaa.PRe

/- About a block lines end, as many as its name asks for, whether it is opened or closed; about other tags none do: of every number and choice, the law's call returns true. No condition. -/
namespace Go.Proofs.Ytaejicolhliecaa.Pure
open Go.RowKit Go.Proofs.Ytaejicolhliecaa.PRe Go.Proofs.Ytaejicolhliecaa.Rend Go.Proofs.YtaejicolhliecaaW.PrintWords Go.Proofs.YtaejicolhliecaaW.PrintLast

def lToks (name : ByteArray) (kind : Int) : List S47 := [⟨0, ⟨#[]⟩, ⟨#[97, 32]⟩, [], false⟩, ⟨kind, name, ⟨#[]⟩, [], false⟩, ⟨0, ⟨#[]⟩, ⟨#[98]⟩, [], false⟩]
/-- What the law asks of a name. -/
def chk (name : ByteArray) (closes : Bool) : Bool :=
  let s := toldD (lToks name (if closes = true then 2 else 1))
  if hasD LH name && !closes then s == [97]
  else if name.data.toList == [98, 114] || linesD name == 1 then s == [97, 10, 98]
  else if linesD name == 2 then s == [97, 10, 10, 98]
  else s == [97, 32, 98]
def names : List ByteArray := (flailref17_Names.f).getD []
theorem bytes_eq' (a : Array UInt8) : (⟨a⟩ : ByteArray).toList = a.toList := by rw [ByteArray.toList_eq]
theorem names_eq : flailref17_Names.f = some names := rfl
theorem names_len : 0 < names.length ∧ names.length ≤ 200 := by decide +kernel
theorem names_all : names.all (fun n => chk n true && chk n false) = true := by decide +kernel

theorem lines_one (name : ByteArray) (closes : Bool) (h : chk name closes = true) : flaillaw19_RenderLines.j0 200 closes true name (if closes = true then 2 else 1) = some true := by
  have hfit : fits (lToks name (if closes = true then 2 else 1)) = true := by cases closes <;> rfl
  have hr := render_eq hfit
  unfold lToks at hr
  simp only [flaillaw19_RenderLines.j0]
  rw [hr, Option.bind_some, hides_at name _ (by decide), Option.bind_some]
  unfold chk at h
  simp only at h
  have htold : told [⟨0, ⟨#[]⟩, ⟨#[97, 32]⟩, [], false⟩, ⟨if closes = true then 2 else 1, name, ⟨#[]⟩, [], false⟩, ⟨0, ⟨#[]⟩, ⟨#[98]⟩, [], false⟩] = toldD (lToks name (if closes = true then 2 else 1)) := told_D _
  rw [htold]
  generalize toldD (lToks name (if closes = true then 2 else 1)) = s at h
  rw [← hasN_D, ← linesN_D] at h
  have hbr : (name.data.toList == [98, 114]) = decide (name.toList = [98, 114]) := by
    rw [ByteArray.toList_eq, Bool.eq_iff_iff]
    simp
  rw [hbr] at h
  have hJ : (if hasN LH name = true then flaillaw19_RenderLines.j1 199 true name ⟨s.toArray⟩ (!closes) else flaillaw19_RenderLines.j1 199 true name ⟨s.toArray⟩ false) = flaillaw19_RenderLines.j1 199 true name ⟨s.toArray⟩ (hasN LH name && !closes) := by
    cases hasN LH name <;> rfl
  rw [hJ]
  cases hh : (hasN LH name && !closes) with
  | true =>
    rw [hh, if_pos rfl] at h
    simp only [flaillaw19_RenderLines.j1]
    rw [bytes_eq]
    simp [h]
  | false =>
    rw [hh, if_neg (by simp)] at h
    simp only [flaillaw19_RenderLines.j1]
    rw [lines_at name _ (by decide)]
    simp only [Bool.false_eq_true, if_false, Option.bind_some]
    by_cases hb : name.toList = [98, 114]
    · rw [if_pos hb]
      rw [decide_eq_true hb, Bool.true_or, if_pos rfl] at h
      simp only [flaillaw19_RenderLines.j2]
      rw [bytes_eq]
      simp [h]
    · rw [if_neg hb]
      rw [decide_eq_false hb, Bool.false_or] at h
      by_cases h1 : linesN name = 1
      · rw [h1] at h ⊢
        rw [if_pos (by decide)] at h
        simp only [flaillaw19_RenderLines.j2]
        rw [bytes_eq]
        simp [h]
      · have h1' : (linesN name == 1) = false := beq_eq_false_iff_ne.2 h1
        rw [h1', if_neg (by simp)] at h
        rw [h1']
        simp only [flaillaw19_RenderLines.j2]
        rw [lines_at name _ (by decide)]
        simp only [Bool.false_eq_true, if_false, Option.bind_some]
        by_cases h2 : linesN name = 2
        · rw [h2] at h ⊢
          rw [if_pos (by decide)] at h
          rw [bytes_eq]
          simp [h]
        · have h2' : (linesN name == 2) = false := beq_eq_false_iff_ne.2 h2
          rw [h2', if_neg (by simp)] at h
          rw [if_neg h2, bytes_eq, bytes_eq' ]
          simp [h]

theorem RenderLines : flaillaw19_RenderLines.Pure := by
  intro a0 a1 ha
  refine ⟨200, ?_⟩
  have hb := bounds_u16 ha
  obtain ⟨h0, h200⟩ := names_len
  have hw : wrap64 a0 = a0 := by unfold wrap64; omega
  have hm : Int.tmod a0 (names.length : Int) = a0 % (names.length : Int) := Int.tmod_eq_emod_of_nonneg hb.1
  have h2 := Int.emod_nonneg a0 (show (names.length : Int) ≠ 0 by omega)
  have h3 := Int.emod_lt_of_pos a0 (show 0 < (names.length : Int) by omega)
  obtain ⟨i, hi⟩ : ∃ i : Nat, a0 % (names.length : Int) = (i : Int) := ⟨(a0 % (names.length : Int)).toNat, by omega⟩
  have hil : i < names.length := by omega
  have hrd : rdOf ByteArray.empty names (i : Int) = names[i] := by simp [rdOf, hil]
  have hall := List.all_eq_true.1 names_all names[i] (List.getElem_mem hil)
  rw [Bool.and_eq_true] at hall
  unfold flaillaw19_RenderLines.f
  rw [Rend.awake_at, Option.bind_some, names_eq, Option.bind_some, if_neg (by omega), hw, hm, hi, if_pos (by omega), if_pos (by omega), hrd]
  cases a1 with
  | true => exact lines_one names[i] true hall.1
  | false => exact lines_one names[i] false hall.2
end Go.Proofs.Ytaejicolhliecaa.Pure
