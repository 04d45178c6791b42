/- Several texts of this claim, laid together into one file. -/
import Derived.Test.YtaejicolhliecaaMPreA
import Derived.Test.YtaejicolhliecaaMPure
import Derived.Test.YtaejicolhliecaaMRendAt
import Derived.OpenShut
set_option linter.unusedSimpArgs false
set_option linter.unusedVariables false
/- Written by a program of this session out of the translation, for this claim: a part of the walk of what the law calls, or the row of the law. -/
namespace Go.Proofs.Ytaejicolhliecaa.PRe
open Go.RowKit Go.Proofs.YtaejicolhliecaaW.PrintWords Go.Proofs.YtaejicolhliecaaW.PrintLast Go.Proofs.YtaejicolhliecaaW.PrintMore
attribute [local go_sem] max2_int min2_int max_two min_two max_three min_three max_four min_four   -- for this text's walks alone
set_option linter.unusedVariables false
set_option linter.unusedSimpArgs false

/-! ### flaillaw19_RenderKeeps: function 14 -/
mutual
def flaillaw19_RenderKeeps.l0 : Nat → List Int → Bool → ByteArray → ByteArray → ByteArray → Int → Option (Bool)
  | 0, _, _, _, _, _, _ => none
  | k + 1, x0, x5, x7, x8, x9, x10 => if x10 < (x0.length : Int) then (flaillaw19_RenderKeeps.l1 k x0 x5 x7 x8 x9 x10 0) else ((render_Render.f (([(⟨1, x7, (⟨#[]⟩ : ByteArray), ([] : List (S51)), false⟩ : S47), (⟨0, (⟨#[]⟩ : ByteArray), x8, ([] : List (S51)), false⟩ : S47), (⟨2, x7, (⟨#[]⟩ : ByteArray), ([] : List (S51)), false⟩ : S47)] : List (S47)))).bind fun t196 => ((render_Render.f (([(⟨1, (⟨#[98]⟩ : ByteArray), (⟨#[]⟩ : ByteArray), ([] : List (S51)), false⟩ : S47), (⟨0, (⟨#[]⟩ : ByteArray), x8, ([] : List (S51)), false⟩ : S47)] : List (S47)))).bind fun t200 => (if x5 = true then (if t196.toList = x8.toList then (some (t200.toList == x9.toList)) else (some false)) else (some false))))
def flaillaw19_RenderKeeps.l1 : Nat → List Int → Bool → ByteArray → ByteArray → ByteArray → Int → Int → Option (Bool)
  | 0, _, _, _, _, _, _, _ => none
  | k + 1, x0, x5, x7, x8, x9, x10, x11 => if 0 ≤ x10 then (if x10 < (x0.length : Int) then (if x11 < (wrap64 (Int.tmod (rd x0 x10) 4)) then (if (rd x0 x10) ≥ 128 then (if x8.size + 1 ≤ 9223372036854775807 then (flaillaw19_RenderKeeps.l1 k x0 x5 x7 (x8 ++ (⟨#[10]⟩ : ByteArray)) x9 x10 (wrap64 (x11 + 1))) else (none)) else (if x8.size + 1 ≤ 9223372036854775807 then (flaillaw19_RenderKeeps.l1 k x0 x5 x7 (x8 ++ (⟨#[32]⟩ : ByteArray)) x9 x10 (wrap64 (x11 + 1))) else (none))) else (if (Int.tmod (rd x0 x10) 4) > 0 then (if x9.size + 1 ≤ 9223372036854775807 then (if x8.size + 1 ≤ 9223372036854775807 then (if (x9 ++ (⟨#[32]⟩ : ByteArray)).size + 1 ≤ 9223372036854775807 then (flaillaw19_RenderKeeps.l0 k x0 x5 x7 (x8 ++ (⟨#[121]⟩ : ByteArray)) ((x9 ++ (⟨#[32]⟩ : ByteArray)) ++ (⟨#[121]⟩ : ByteArray)) (wrap64 (x10 + 1))) else (none)) else (none)) else (none)) else (if x8.size + 1 ≤ 9223372036854775807 then (if x9.size + 1 ≤ 9223372036854775807 then (flaillaw19_RenderKeeps.l0 k x0 x5 x7 (x8 ++ (⟨#[121]⟩ : ByteArray)) (x9 ++ (⟨#[121]⟩ : ByteArray)) (wrap64 (x10 + 1))) else (none)) else (none)))) else (none)) else (none)
end
def flaillaw19_RenderKeeps.f (k : Nat) (l0 : List Int) (a1 : Int) : Option (Bool) := (flaillaw19_awake.f).bind fun t188 => (if (l0.length : Int) > 60 then (some t188) else ((some (([(⟨#[112, 114, 101]⟩ : ByteArray), (⟨#[116, 101, 120, 116, 97, 114, 101, 97]⟩ : ByteArray), (⟨#[108, 105, 115, 116, 105, 110, 103]⟩ : ByteArray), (⟨#[120, 109, 112]⟩ : ByteArray), (⟨#[112, 108, 97, 105, 110, 116, 101, 120, 116]⟩ : ByteArray)] : List ByteArray) : List ByteArray)).bind fun y189 => (if 0 ≤ (Int.tmod (wrap64 (a1)) 5) then (if (Int.tmod (wrap64 (a1)) 5) < (y189.length : Int) then (flaillaw19_RenderKeeps.l0 k l0 t188 (rdOf ByteArray.empty y189 (Int.tmod (wrap64 (a1)) 5)) (⟨#[120]⟩ : ByteArray) (⟨#[120]⟩ : ByteArray) 0) else (none)) else (none))))
theorem flaillaw19_RenderKeeps.mono_l : ∀ k, (∀ y0 y1 y2 y3 y4 y5, LeO (flaillaw19_RenderKeeps.l0 k y0 y1 y2 y3 y4 y5) (flaillaw19_RenderKeeps.l0 (k + 1) y0 y1 y2 y3 y4 y5)) ∧ (∀ y0 y1 y2 y3 y4 y5 y6, LeO (flaillaw19_RenderKeeps.l1 k y0 y1 y2 y3 y4 y5 y6) (flaillaw19_RenderKeeps.l1 (k + 1) y0 y1 y2 y3 y4 y5 y6))
  | 0 => ⟨fun _ _ _ _ _ _ r h => by simp [flaillaw19_RenderKeeps.l0] at h, fun _ _ _ _ _ _ _ r h => by simp [flaillaw19_RenderKeeps.l1] at h⟩
  | k + 1 => by
    obtain ⟨ih0, ih1⟩ := flaillaw19_RenderKeeps.mono_l k
    refine ⟨?_, ?_⟩
    · intro y0 y1 y2 y3 y4 y5
      unfold flaillaw19_RenderKeeps.l0
      repeat' first
      | (with_reducible exact ih0 _ _ _ _ _ _)
      | (with_reducible exact ih1 _ _ _ _ _ _ _)
      | (with_reducible exact LeO.refl _)
      | (with_reducible exact LeO.none _)
      | (with_reducible refine LeO.ite ?_ ?_)
      | (with_reducible refine LeO.bind ?_ (fun _ => ?_))
      | exact ih0 _ _ _ _ _ _
      | exact ih1 _ _ _ _ _ _ _
      | exact LeO.none _
      | refine LeO.ite ?_ ?_
      | refine LeO.bind ?_ (fun _ => ?_)
    · intro y0 y1 y2 y3 y4 y5 y6
      unfold flaillaw19_RenderKeeps.l1
      repeat' first
      | (with_reducible exact ih0 _ _ _ _ _ _)
      | (with_reducible exact ih1 _ _ _ _ _ _ _)
      | (with_reducible exact LeO.refl _)
      | (with_reducible exact LeO.none _)
      | (with_reducible refine LeO.ite ?_ ?_)
      | (with_reducible refine LeO.bind ?_ (fun _ => ?_))
      | exact ih0 _ _ _ _ _ _
      | exact ih1 _ _ _ _ _ _ _
      | exact LeO.none _
      | refine LeO.ite ?_ ?_
      | refine LeO.bind ?_ (fun _ => ?_)
theorem flaillaw19_RenderKeeps.mono : ∀ a0 a1 k, LeO (flaillaw19_RenderKeeps.f k a0 a1) (flaillaw19_RenderKeeps.f (k + 1) a0 a1) := by
  intro a0 a1 k
  obtain ⟨ih0, ih1⟩ := flaillaw19_RenderKeeps.mono_l k
  unfold flaillaw19_RenderKeeps.f
  repeat' first
      | (with_reducible exact ih0 _ _ _ _ _ _)
      | (with_reducible exact ih1 _ _ _ _ _ _ _)
      | (with_reducible exact LeO.refl _)
      | (with_reducible exact LeO.none _)
      | (with_reducible refine LeO.ite ?_ ?_)
      | (with_reducible refine LeO.bind ?_ (fun _ => ?_))
      | exact ih0 _ _ _ _ _ _
      | exact ih1 _ _ _ _ _ _ _
      | exact LeO.none _
      | refine LeO.ite ?_ ?_
      | refine LeO.bind ?_ (fun _ => ?_)
set_option maxHeartbeats 8000000 in
set_option maxRecDepth 100000 in
theorem flaillaw19_RenderKeeps.calls (k : Nat) (A0 : Option Addr) (c0 : Nat) (l0 : List Int) (a1 : Int) (r : Bool) (w : World) (hr0 : Kd.C (Kd.int .u8) w A0 l0.length l0) (hc0 : l0.length ≤ c0) (h : flaillaw19_RenderKeeps.f k l0 a1 = some r) :
    Calls Try.prog 14 #[.slice A0 l0.length c0, .int .u8 a1] w fun e w' => e = .returned (.bool r) ∧ Below w.heap.size w w' := by
  have hu47 := Try.underlying47
  have HR0 := Aside0.mk hr0
  have HC0 := Aside0.mk hc0
  clear hr0 hc0
  have HB := Aside0.mk (Below.refl w.heap.size w)
  have H : ((flaillaw19_awake.f).bind fun t188 => (if (l0.length : Int) > 60 then (some t188) else ((some (([(⟨#[112, 114, 101]⟩ : ByteArray), (⟨#[116, 101, 120, 116, 97, 114, 101, 97]⟩ : ByteArray), (⟨#[108, 105, 115, 116, 105, 110, 103]⟩ : ByteArray), (⟨#[120, 109, 112]⟩ : ByteArray), (⟨#[112, 108, 97, 105, 110, 116, 101, 120, 116]⟩ : ByteArray)] : List ByteArray) : List ByteArray)).bind fun y189 => (if 0 ≤ (Int.tmod (wrap64 (a1)) 5) then (if (Int.tmod (wrap64 (a1)) 5) < (y189.length : Int) then (flaillaw19_RenderKeeps.l0 k l0 t188 (rdOf ByteArray.empty y189 (Int.tmod (wrap64 (a1)) 5)) (⟨#[120]⟩ : ByteArray) (⟨#[120]⟩ : ByteArray) 0) else (none)) else (none))))) = some r := h
  clear h
  replace H := Option.bind_eq_some_iff.mp H
  obtain ⟨t188, A30, H⟩ := H
  replace H : (if (l0.length : Int) > 60 then (some t188) else ((some (([(⟨#[112, 114, 101]⟩ : ByteArray), (⟨#[116, 101, 120, 116, 97, 114, 101, 97]⟩ : ByteArray), (⟨#[108, 105, 115, 116, 105, 110, 103]⟩ : ByteArray), (⟨#[120, 109, 112]⟩ : ByteArray), (⟨#[112, 108, 97, 105, 110, 116, 101, 120, 116]⟩ : ByteArray)] : List ByteArray) : List ByteArray)).bind fun y189 => (if 0 ≤ (Int.tmod (wrap64 (a1)) 5) then (if (Int.tmod (wrap64 (a1)) 5) < (y189.length : Int) then (flaillaw19_RenderKeeps.l0 k l0 t188 (rdOf ByteArray.empty y189 (Int.tmod (wrap64 (a1)) 5)) (⟨#[120]⟩ : ByteArray) (⟨#[120]⟩ : ByteArray) 0) else (none)) else (none)))) = some r := H
  have A3 := Aside0.mk A30
  clear A30
  by_cases c4 : (l0.length : Int) > 60
  · rw [if_pos c4] at H
    have c4b0 : decide (60 < (l0.length : Int)) = true := decide_eq_true c4
    have c4b1 : decide (60 < l0.length) = true := decide_eq_true (by omega)
    clear c4
    obtain rfl := Option.some.inj H
    go_enter Try.func14, Try.ntmps14
    go_wp2_with (first | ((with_reducible refine gate_callee (f := 25) rfl ?_); refine goesL_ (some 14) rfl rfl Try.func25 (by kernel_rfl) rfl #[] rfl (by (try simp only [List.map_toArray, List.map_cons, List.map_nil]); first | done | rfl | (simp only [List.length_drop, List.length_take]; rfl)) ?_; (with_reducible refine (flaillaw19_awake.calls  t188 _ A3.out).mono ?_); rintro e w5 ⟨rfl, hb⟩; refine ⟨_, rfl, ?_⟩; have n0_ := Aside0.mk (below_step (by repeat (first | (with_reducible first | exact HB.out | apply below_alloc | apply pw_below_drewN | apply below_drew1) | exact HB.out)) hb); clear HB; have HB := n0_; clear n0_; (try clear hb); (try clear hb2); (try clear hk); (try clear hi)))
    go_ret
    exact ⟨by first | rfl | (simp [errW_none, errW_some] <;> rfl) | (simp [*, errW_none, errW_some] <;> rfl), by repeat (first | (with_reducible first | exact HB.out | apply below_alloc | apply pw_below_drewN | apply below_drew1) | exact HB.out)⟩
  · rw [if_neg c4] at H
    have c4b0 : decide (60 < (l0.length : Int)) = false := decide_eq_false c4
    have c4b1 : decide (60 < l0.length) = false := decide_eq_false (by omega)
    clear c4
    obtain ⟨y189, hy189⟩ : ∃ y_ : List ByteArray, y_ = (([(⟨#[112, 114, 101]⟩ : ByteArray), (⟨#[116, 101, 120, 116, 97, 114, 101, 97]⟩ : ByteArray), (⟨#[108, 105, 115, 116, 105, 110, 103]⟩ : ByteArray), (⟨#[120, 109, 112]⟩ : ByteArray), (⟨#[112, 108, 97, 105, 110, 116, 101, 120, 116]⟩ : ByteArray)] : List ByteArray)) := ⟨_, rfl⟩
    replace H : (if 0 ≤ (Int.tmod (wrap64 (a1)) 5) then (if (Int.tmod (wrap64 (a1)) 5) < (y189.length : Int) then (flaillaw19_RenderKeeps.l0 k l0 t188 (rdOf ByteArray.empty y189 (Int.tmod (wrap64 (a1)) 5)) (⟨#[120]⟩ : ByteArray) (⟨#[120]⟩ : ByteArray) 0) else (none)) else (none)) = some r := by first | (rw [hy189]; with_reducible exact H) | (have H2_ := (Option.bind_some _ _).symm.trans H; rw [hy189]; with_reducible exact H2_) | (have H2_ := (Option.bind_some _ _).symm.trans H; with_reducible exact H2_) | with_reducible exact H | (rw [hy189]; exact H) | exact H
    have Ny189 := Aside0.mk hy189
    clear hy189
    obtain ⟨ji6, hji6⟩ : ∃ j_ : Int, (Int.tmod (wrap64 (a1)) 5) = j_ := ⟨_, rfl⟩
    replace H : (if 0 ≤ (ji6) then (if (ji6) < (y189.length : Int) then (flaillaw19_RenderKeeps.l0 k l0 t188 (rdOf ByteArray.empty y189 (ji6)) (⟨#[120]⟩ : ByteArray) (⟨#[120]⟩ : ByteArray) 0) else (none)) else (none)) = some r := by first | (rw [hji6] at H; exact H) | (simp only [hji6] at H ⊢; exact H)
    (try rw [hji6] at A3)
    by_cases c7 : 0 ≤ (ji6)
    · rw [if_pos c7] at H
      have c7b0 : decide (0 ≤ (ji6)) = true := decide_eq_true c7
      clear c7
      by_cases c8 : (ji6) < (y189.length : Int)
      · rw [if_pos c8] at H
        have c8b0 : decide ((ji6) < (y189.length : Int)) = true := decide_eq_true c8
        clear c8
        have H' := Aside0.mk H
        clear H
        go_enter Try.func14, Try.ntmps14
        go_wp2_with (first | ((with_reducible refine gate_callee (f := 25) rfl ?_); refine goesL_ (some 14) rfl rfl Try.func25 (by kernel_rfl) rfl #[] rfl (by (try simp only [List.map_toArray, List.map_cons, List.map_nil]); first | done | rfl | (simp only [List.length_drop, List.length_take]; rfl)) ?_; (with_reducible refine (flaillaw19_awake.calls  t188 _ A3.out).mono ?_); rintro e w9 ⟨rfl, hb⟩; refine ⟨_, rfl, ?_⟩; have n0_ := Aside0.mk (below_step (by repeat (first | (with_reducible first | exact HB.out | apply below_alloc | apply pw_below_drewN | apply below_drew1) | exact HB.out)) hb); clear HB; have HB := n0_; clear n0_; (try clear hb); (try clear hb2); (try clear hk); (try clear hi)) | ((with_reducible refine gate_dst (N := 19) rfl ?_); refine Kd.R_lit Kd.string _ 9 ?hg (N := 19) ?hd (xs := ([(⟨#[112, 114, 101]⟩ : ByteArray), (⟨#[116, 101, 120, 116, 97, 114, 101, 97]⟩ : ByteArray), (⟨#[108, 105, 115, 116, 105, 110, 103]⟩ : ByteArray), (⟨#[120, 109, 112]⟩ : ByteArray), (⟨#[112, 108, 97, 105, 110, 116, 101, 120, 116]⟩ : ByteArray)] : List ByteArray)) (inner := [.string (⟨#[112, 114, 101]⟩ : ByteArray), .string (⟨#[116, 101, 120, 116, 97, 114, 101, 97]⟩ : ByteArray), .string (⟨#[108, 105, 115, 116, 105, 110, 103]⟩ : ByteArray), .string (⟨#[120, 109, 112]⟩ : ByteArray), .string (⟨#[112, 108, 97, 105, 110, 116, 101, 120, 116]⟩ : ByteArray)]) (ok := fun _ => True) (okp := fun _ => True) ?hr ?hp (fun _ hk => hk) trivial (Below.refl _ _) (Nat.le_refl _) (by simp) ?_; (case hd => rfl); (case hg => rfl); (case hr => first | (go_simp; done) | (go_simp; rfl)); (case hp => exact (Reps.one (show Kd.M Kd.string _ _ _ (⟨#[112, 114, 101]⟩ : ByteArray) [.string (⟨#[112, 114, 101]⟩ : ByteArray)] from rfl) (Reps.one (show Kd.M Kd.string _ _ _ (⟨#[116, 101, 120, 116, 97, 114, 101, 97]⟩ : ByteArray) [.string (⟨#[116, 101, 120, 116, 97, 114, 101, 97]⟩ : ByteArray)] from rfl) (Reps.one (show Kd.M Kd.string _ _ _ (⟨#[108, 105, 115, 116, 105, 110, 103]⟩ : ByteArray) [.string (⟨#[108, 105, 115, 116, 105, 110, 103]⟩ : ByteArray)] from rfl) (Reps.one (show Kd.M Kd.string _ _ _ (⟨#[120, 109, 112]⟩ : ByteArray) [.string (⟨#[120, 109, 112]⟩ : ByteArray)] from rfl) (Reps.one (show Kd.M Kd.string _ _ _ (⟨#[112, 108, 97, 105, 110, 116, 101, 120, 116]⟩ : ByteArray) [.string (⟨#[112, 108, 97, 105, 110, 116, 101, 120, 116]⟩ : ByteArray)] from rfl) (Reps.none _ _))))))); intro v190 w10 ho11 hb hg_ hnew_; clear hg_ hnew_; (first | rw [← Ny189.out] at ho11 | (simp only [Int.reduceToNat] at ho11; rw [← Ny189.out] at ho11)); have n0_ := Aside0.mk (Kd.R_lower ho11 (below_size (by repeat (first | (with_reducible first | exact HB.out | apply below_alloc | apply pw_below_drewN | apply below_drew1) | exact HB.out)))); have n1_ := Aside0.mk (below_step (by repeat (first | (with_reducible first | exact HB.out | apply below_alloc | apply pw_below_drewN | apply below_drew1) | exact HB.out)) hb); clear HB; have HO191 := n0_; have HB := n1_; clear n0_ n1_; clear hb ho11; obtain ⟨Ao12, co12, eo12⟩ := Kd.R_slice HO191.out; subst eo12; have p192 : 0 ≤ ((ji6) : Int) := of_decide_eq_true (by first | (with_reducible assumption) | assumption); have q192 : (ji6) < (y189.length : Int) := of_decide_eq_true (by first | (with_reducible assumption) | assumption); obtain ⟨ad192, e192, hx192_0⟩ := Kd.at_string (Kd.R_reads' HO191.out).2.2 (ji6) p192 q192; cases e192; replace p192 := eq_true p192; replace q192 := eq_true q192))
        go_loopg [8, 9, 10] k (fun kq v8 v9 v10 w' => ∃ (x8_1 : ByteArray) (x9_1 : ByteArray) (x10_1 : Int), v8 = .string x8_1 ∧ v9 = .string x9_1 ∧ v10 = .int .i64 x10_1 ∧ Aside0 (flaillaw19_RenderKeeps.l0 kq l0 t188 (rdOf ByteArray.empty y189 (ji6)) x8_1 x9_1 x10_1 = some r) ∧ Aside0 (kq ≤ k) ∧ Aside0 (Below w.heap.size w w'))
        case atStart => exact ⟨((⟨#[120]⟩ : ByteArray)), ((⟨#[120]⟩ : ByteArray)), (0), (by first | rfl | (simp; done) | (simp [*]; done)), (by first | rfl | (simp; done) | (simp [*]; done)), (by first | rfl | (simp; done) | (simp [*]; done)), H', ⟨Nat.le_refl _⟩, ⟨by repeat (first | (with_reducible first | exact HB.out | apply below_alloc | apply pw_below_drewN | apply below_drew1) | exact HB.out)⟩⟩
        case round =>
          clear H'
          try clear c1
          try clear p1
          try clear q1
          try clear hx1
          try clear c2
          try clear p2
          try clear c4
          try clear c4b0
          try clear c4b1
          try clear p6
          try clear c7
          try clear c7b0
          try clear c8
          try clear c8b0
          try clear hx192_0
          try clear p192
          try clear q192
          obtain ⟨x8_1, x9_1, x10_1, rfl, rfl, rfl, HA, HK1, HB⟩ := hrel
          cases gk with
          | zero => exact absurd HA.out (by simp [flaillaw19_RenderKeeps.l0])
          | succ k1 =>
            have H := HA.out
            clear HA
            simp only [flaillaw19_RenderKeeps.l0] at H
            by_cases c13 : x10_1 < (l0.length : Int)
            · rw [if_pos c13] at H
              have c13b0 : decide (x10_1 < (l0.length : Int)) = true := decide_eq_true c13
              clear c13
              have H' := Aside0.mk H
              clear H
              go_wp2
              go_loopg [8, 11] k1 (fun kq v8 v11 w' => ∃ (x8_2 : ByteArray) (x11_2 : Int), v8 = .string x8_2 ∧ v11 = .int .i64 x11_2 ∧ Aside0 (flaillaw19_RenderKeeps.l1 kq l0 t188 (rdOf ByteArray.empty y189 (ji6)) x8_2 x9_1 x10_1 x11_2 = some r) ∧ Aside0 (kq ≤ k1) ∧ Aside0 (Below w.heap.size w w'))
              case atStart => exact ⟨(x8_1), (0), (by first | rfl | (simp; done) | (simp [*]; done)), (by first | rfl | (simp; done) | (simp [*]; done)), H', ⟨Nat.le_refl _⟩, ⟨by repeat (first | (with_reducible first | exact HB.out | apply below_alloc | apply pw_below_drewN | apply below_drew1) | exact HB.out)⟩⟩
              case round =>
                clear H'
                try clear c1
                try clear p1
                try clear q1
                try clear hx1
                try clear c2
                try clear p2
                try clear c4
                try clear c4b0
                try clear c4b1
                try clear p6
                try clear c7
                try clear c7b0
                try clear c8
                try clear c8b0
                try clear c13
                try clear c13b0
                try clear hx192_0
                try clear p1
                try clear p192
                try clear p2
                try clear p6
                try clear q1
                try clear q192
                obtain ⟨x8_2, x11_2, rfl, rfl, HA, HK2, HB⟩ := hrel
                cases gk with
                | zero => exact absurd HA.out (by simp [flaillaw19_RenderKeeps.l1])
                | succ k2 =>
                  have H := HA.out
                  clear HA
                  simp only [flaillaw19_RenderKeeps.l1] at H
                  by_cases c14 : 0 ≤ x10_1
                  · rw [if_pos c14] at H
                    have c14b0 : decide (0 ≤ x10_1) = true := decide_eq_true c14
                    clear c14
                    by_cases c15 : x10_1 < (l0.length : Int)
                    · rw [if_pos c15] at H
                      have c15b0 : decide (x10_1 < (l0.length : Int)) = true := decide_eq_true c15
                      clear c15
                      by_cases c16 : x11_2 < (wrap64 (Int.tmod (rd l0 x10_1) 4))
                      · rw [if_pos c16] at H
                        have c16b0 : decide (x11_2 < (wrap64 (Int.tmod (rd l0 x10_1) 4))) = true := decide_eq_true c16
                        clear c16
                        by_cases c17 : (rd l0 x10_1) ≥ 128
                        · rw [if_pos c17] at H
                          have c17b0 : decide (128 ≤ (rd l0 x10_1)) = true := decide_eq_true c17
                          clear c17
                          by_cases c18 : x8_2.size + 1 ≤ 9223372036854775807
                          · rw [if_pos c18] at H
                            have c18b0 := eq_true c18
                            have c18b1 : decide (x8_2.size + 1 ≤ 9223372036854775807) = true := decide_eq_true c18
                            try have c18b2 : (9223372036854775807 < x8_2.size + 1) = False := eq_false (Nat.not_lt.2 c18)
                            have H' := Aside0.mk H
                            clear H
                            have p201 : 0 ≤ (x10_1 : Int) := of_decide_eq_true (by first | (with_reducible assumption) | assumption)
                            have q201 : x10_1 < (l0.length : Int) := of_decide_eq_true (by first | (with_reducible assumption) | assumption)
                            obtain ⟨ad201, e201, hx201_0⟩ := Kd.at_int HR0.out x10_1 p201 q201
                            cases e201
                            replace hx201_0 := (HB.out.cell (World.block_lt_of_cell? w _ hx201_0)).trans hx201_0
                            replace p201 := eq_true p201
                            replace q201 := eq_true q201
                            have p202 : 0 ≤ (x10_1 : Int) := of_decide_eq_true (by first | (with_reducible assumption) | assumption)
                            have q202 : x10_1 < (l0.length : Int) := of_decide_eq_true (by first | (with_reducible assumption) | assumption)
                            obtain ⟨ad202, e202, hx202_0⟩ := Kd.at_int HR0.out x10_1 p202 q202
                            obtain rfl : ad201 = ad202 := (by injection e202)
                            replace hx202_0 := (HB.out.cell (World.block_lt_of_cell? w _ hx202_0)).trans hx202_0
                            replace p202 := eq_true p202
                            replace q202 := eq_true q202
                            go_wp2
                            go_roundg k2
                            case measure => have := HK1.out; have := HK2.out; omega
                            case rel => exact ⟨(x8_2 ++ (⟨#[10]⟩ : ByteArray)), (wrap64 (x11_2 + 1)), (by first | rfl | (simp; done) | (simp [*]; done)), (by first | rfl | (simp; done) | (simp [*]; done)), H', ⟨by have := HK1.out; have := HK2.out; omega⟩, ⟨by repeat (first | (with_reducible first | exact HB.out | apply below_alloc | apply pw_below_drewN | apply below_drew1) | exact HB.out)⟩⟩
                          · rw [if_neg c18] at H
                            exact absurd H (by simp)
                        · rw [if_neg c17] at H
                          have c17b0 : decide (128 ≤ (rd l0 x10_1)) = false := decide_eq_false c17
                          clear c17
                          by_cases c19 : x8_2.size + 1 ≤ 9223372036854775807
                          · rw [if_pos c19] at H
                            have c19b0 := eq_true c19
                            have c19b1 : decide (x8_2.size + 1 ≤ 9223372036854775807) = true := decide_eq_true c19
                            try have c19b2 : (9223372036854775807 < x8_2.size + 1) = False := eq_false (Nat.not_lt.2 c19)
                            have H' := Aside0.mk H
                            clear H
                            have p201 : 0 ≤ (x10_1 : Int) := of_decide_eq_true (by first | (with_reducible assumption) | assumption)
                            have q201 : x10_1 < (l0.length : Int) := of_decide_eq_true (by first | (with_reducible assumption) | assumption)
                            obtain ⟨ad201, e201, hx201_0⟩ := Kd.at_int HR0.out x10_1 p201 q201
                            cases e201
                            replace hx201_0 := (HB.out.cell (World.block_lt_of_cell? w _ hx201_0)).trans hx201_0
                            replace p201 := eq_true p201
                            replace q201 := eq_true q201
                            have p202 : 0 ≤ (x10_1 : Int) := of_decide_eq_true (by first | (with_reducible assumption) | assumption)
                            have q202 : x10_1 < (l0.length : Int) := of_decide_eq_true (by first | (with_reducible assumption) | assumption)
                            obtain ⟨ad202, e202, hx202_0⟩ := Kd.at_int HR0.out x10_1 p202 q202
                            obtain rfl : ad201 = ad202 := (by injection e202)
                            replace hx202_0 := (HB.out.cell (World.block_lt_of_cell? w _ hx202_0)).trans hx202_0
                            replace p202 := eq_true p202
                            replace q202 := eq_true q202
                            go_wp2
                            go_roundg k2
                            case measure => have := HK1.out; have := HK2.out; omega
                            case rel => exact ⟨(x8_2 ++ (⟨#[32]⟩ : ByteArray)), (wrap64 (x11_2 + 1)), (by first | rfl | (simp; done) | (simp [*]; done)), (by first | rfl | (simp; done) | (simp [*]; done)), H', ⟨by have := HK1.out; have := HK2.out; omega⟩, ⟨by repeat (first | (with_reducible first | exact HB.out | apply below_alloc | apply pw_below_drewN | apply below_drew1) | exact HB.out)⟩⟩
                          · rw [if_neg c19] at H
                            exact absurd H (by simp)
                      · rw [if_neg c16] at H
                        have c16b0 : decide (x11_2 < (wrap64 (Int.tmod (rd l0 x10_1) 4))) = false := decide_eq_false c16
                        clear c16
                        by_cases c20 : (Int.tmod (rd l0 x10_1) 4) > 0
                        · rw [if_pos c20] at H
                          have c20b0 : decide (0 < (Int.tmod (rd l0 x10_1) 4)) = true := decide_eq_true c20
                          clear c20
                          by_cases c21 : x9_1.size + 1 ≤ 9223372036854775807
                          · rw [if_pos c21] at H
                            have c21b0 := eq_true c21
                            have c21b1 : decide (x9_1.size + 1 ≤ 9223372036854775807) = true := decide_eq_true c21
                            try have c21b2 : (9223372036854775807 < x9_1.size + 1) = False := eq_false (Nat.not_lt.2 c21)
                            by_cases c22 : x8_2.size + 1 ≤ 9223372036854775807
                            · rw [if_pos c22] at H
                              have c22b0 := eq_true c22
                              have c22b1 : decide (x8_2.size + 1 ≤ 9223372036854775807) = true := decide_eq_true c22
                              try have c22b2 : (9223372036854775807 < x8_2.size + 1) = False := eq_false (Nat.not_lt.2 c22)
                              by_cases c23 : (x9_1 ++ (⟨#[32]⟩ : ByteArray)).size + 1 ≤ 9223372036854775807
                              · rw [if_pos c23] at H
                                have c23b0 := eq_true c23
                                have c23b1 : decide ((x9_1 ++ (⟨#[32]⟩ : ByteArray)).size + 1 ≤ 9223372036854775807) = true := decide_eq_true c23
                                try have c23b2 : (9223372036854775807 < (x9_1 ++ (⟨#[32]⟩ : ByteArray)).size + 1) = False := eq_false (Nat.not_lt.2 c23)
                                have c23s : (x9_1 ++ (⟨#[32]⟩ : ByteArray)).size = x9_1.size + 1 := by rw [ByteArray.size_append]; rfl
                                have c23t : x9_1.size + 1 + 1 ≤ 9223372036854775807 := by rw [c23s] at c23; exact c23
                                have c23u : x9_1.size + 2 ≤ 9223372036854775807 := c23t
                                have c23t0 := eq_true c23t
                                have c23u0 := eq_true c23u
                                have c23t1 : decide (x9_1.size + 1 + 1 ≤ 9223372036854775807) = true := decide_eq_true c23t
                                have c23u1 : decide (x9_1.size + 2 ≤ 9223372036854775807) = true := decide_eq_true c23u
                                have c23t2 : (9223372036854775807 < x9_1.size + 1 + 1) = False := eq_false (Nat.not_lt.2 c23t)
                                have c23u2 : (9223372036854775807 < x9_1.size + 2) = False := eq_false (Nat.not_lt.2 c23u)
                                clear c23s c23t c23u
                                have H' := Aside0.mk H
                                clear H
                                have p201 : 0 ≤ (x10_1 : Int) := of_decide_eq_true (by first | (with_reducible assumption) | assumption)
                                have q201 : x10_1 < (l0.length : Int) := of_decide_eq_true (by first | (with_reducible assumption) | assumption)
                                obtain ⟨ad201, e201, hx201_0⟩ := Kd.at_int HR0.out x10_1 p201 q201
                                cases e201
                                replace hx201_0 := (HB.out.cell (World.block_lt_of_cell? w _ hx201_0)).trans hx201_0
                                replace p201 := eq_true p201
                                replace q201 := eq_true q201
                                have p203 : 0 ≤ (x10_1 : Int) := of_decide_eq_true (by first | (with_reducible assumption) | assumption)
                                have q203 : x10_1 < (l0.length : Int) := of_decide_eq_true (by first | (with_reducible assumption) | assumption)
                                obtain ⟨ad203, e203, hx203_0⟩ := Kd.at_int HR0.out x10_1 p203 q203
                                obtain rfl : ad201 = ad203 := (by injection e203)
                                replace hx203_0 := (HB.out.cell (World.block_lt_of_cell? w _ hx203_0)).trans hx203_0
                                replace p203 := eq_true p203
                                replace q203 := eq_true q203
                                go_wp2
                                go_roundg k2
                                case measure => have := HK1.out; have := HK2.out; omega
                                case rel => exact ⟨(x8_2 ++ (⟨#[121]⟩ : ByteArray)), ((x9_1 ++ (⟨#[32]⟩ : ByteArray)) ++ (⟨#[121]⟩ : ByteArray)), (wrap64 (x10_1 + 1)), (by first | rfl | (simp; done) | (simp [*]; done)), (by first | rfl | (simp; done) | (simp [*]; done)), (by first | rfl | (simp; done) | (simp [*]; done)), H', ⟨by have := HK1.out; have := HK2.out; omega⟩, ⟨by repeat (first | (with_reducible first | exact HB.out | apply below_alloc | apply pw_below_drewN | apply below_drew1) | exact HB.out)⟩⟩
                              · rw [if_neg c23] at H
                                exact absurd H (by simp)
                            · rw [if_neg c22] at H
                              exact absurd H (by simp)
                          · rw [if_neg c21] at H
                            exact absurd H (by simp)
                        · rw [if_neg c20] at H
                          have c20b0 : decide (0 < (Int.tmod (rd l0 x10_1) 4)) = false := decide_eq_false c20
                          clear c20
                          by_cases c24 : x8_2.size + 1 ≤ 9223372036854775807
                          · rw [if_pos c24] at H
                            have c24b0 := eq_true c24
                            have c24b1 : decide (x8_2.size + 1 ≤ 9223372036854775807) = true := decide_eq_true c24
                            try have c24b2 : (9223372036854775807 < x8_2.size + 1) = False := eq_false (Nat.not_lt.2 c24)
                            by_cases c25 : x9_1.size + 1 ≤ 9223372036854775807
                            · rw [if_pos c25] at H
                              have c25b0 := eq_true c25
                              have c25b1 : decide (x9_1.size + 1 ≤ 9223372036854775807) = true := decide_eq_true c25
                              try have c25b2 : (9223372036854775807 < x9_1.size + 1) = False := eq_false (Nat.not_lt.2 c25)
                              have H' := Aside0.mk H
                              clear H
                              have p201 : 0 ≤ (x10_1 : Int) := of_decide_eq_true (by first | (with_reducible assumption) | assumption)
                              have q201 : x10_1 < (l0.length : Int) := of_decide_eq_true (by first | (with_reducible assumption) | assumption)
                              obtain ⟨ad201, e201, hx201_0⟩ := Kd.at_int HR0.out x10_1 p201 q201
                              cases e201
                              replace hx201_0 := (HB.out.cell (World.block_lt_of_cell? w _ hx201_0)).trans hx201_0
                              replace p201 := eq_true p201
                              replace q201 := eq_true q201
                              have p203 : 0 ≤ (x10_1 : Int) := of_decide_eq_true (by first | (with_reducible assumption) | assumption)
                              have q203 : x10_1 < (l0.length : Int) := of_decide_eq_true (by first | (with_reducible assumption) | assumption)
                              obtain ⟨ad203, e203, hx203_0⟩ := Kd.at_int HR0.out x10_1 p203 q203
                              obtain rfl : ad201 = ad203 := (by injection e203)
                              replace hx203_0 := (HB.out.cell (World.block_lt_of_cell? w _ hx203_0)).trans hx203_0
                              replace p203 := eq_true p203
                              replace q203 := eq_true q203
                              go_wp2
                              go_roundg k2
                              case measure => have := HK1.out; have := HK2.out; omega
                              case rel => exact ⟨(x8_2 ++ (⟨#[121]⟩ : ByteArray)), (x9_1 ++ (⟨#[121]⟩ : ByteArray)), (wrap64 (x10_1 + 1)), (by first | rfl | (simp; done) | (simp [*]; done)), (by first | rfl | (simp; done) | (simp [*]; done)), (by first | rfl | (simp; done) | (simp [*]; done)), H', ⟨by have := HK1.out; have := HK2.out; omega⟩, ⟨by repeat (first | (with_reducible first | exact HB.out | apply below_alloc | apply pw_below_drewN | apply below_drew1) | exact HB.out)⟩⟩
                            · rw [if_neg c25] at H
                              exact absurd H (by simp)
                          · rw [if_neg c24] at H
                            exact absurd H (by simp)
                    · rw [if_neg c15] at H
                      exact absurd H (by simp)
                  · rw [if_neg c14] at H
                    exact absurd H (by simp)
            · rw [if_neg c13] at H
              have c13b0 : decide (x10_1 < (l0.length : Int)) = false := decide_eq_false c13
              clear c13
              obtain ⟨y193, hy193⟩ : ∃ y_ : List (S47), y_ = (([(⟨1, (rdOf ByteArray.empty y189 (ji6)), (⟨#[]⟩ : ByteArray), ([] : List (S51)), false⟩ : S47), (⟨0, (⟨#[]⟩ : ByteArray), x8_1, ([] : List (S51)), false⟩ : S47), (⟨2, (rdOf ByteArray.empty y189 (ji6)), (⟨#[]⟩ : ByteArray), ([] : List (S51)), false⟩ : S47)] : List (S47))) := ⟨_, rfl⟩
              replace H : ((render_Render.f y193).bind fun t196 => ((render_Render.f (([(⟨1, (⟨#[98]⟩ : ByteArray), (⟨#[]⟩ : ByteArray), ([] : List (S51)), false⟩ : S47), (⟨0, (⟨#[]⟩ : ByteArray), x8_1, ([] : List (S51)), false⟩ : S47)] : List (S47)))).bind fun t200 => (if t188 = true then (if t196.toList = x8_1.toList then (some (t200.toList == x9_1.toList)) else (some false)) else (some false)))) = some r := by first | (rw [hy193]; with_reducible exact H) | (have H2_ := (Option.bind_some _ _).symm.trans H; rw [hy193]; with_reducible exact H2_) | (have H2_ := (Option.bind_some _ _).symm.trans H; with_reducible exact H2_) | with_reducible exact H | (rw [hy193]; exact H) | exact H
              have Ny193 := Aside0.mk hy193
              clear hy193
              replace H := Option.bind_eq_some_iff.mp H
              obtain ⟨t196, A260, H⟩ := H
              replace H : ((render_Render.f (([(⟨1, (⟨#[98]⟩ : ByteArray), (⟨#[]⟩ : ByteArray), ([] : List (S51)), false⟩ : S47), (⟨0, (⟨#[]⟩ : ByteArray), x8_1, ([] : List (S51)), false⟩ : S47)] : List (S47)))).bind fun t200 => (if t188 = true then (if t196.toList = x8_1.toList then (some (t200.toList == x9_1.toList)) else (some false)) else (some false))) = some r := H
              have A26 := Aside0.mk A260
              clear A260
              obtain ⟨y197, hy197⟩ : ∃ y_ : List (S47), y_ = (([(⟨1, (⟨#[98]⟩ : ByteArray), (⟨#[]⟩ : ByteArray), ([] : List (S51)), false⟩ : S47), (⟨0, (⟨#[]⟩ : ByteArray), x8_1, ([] : List (S51)), false⟩ : S47)] : List (S47))) := ⟨_, rfl⟩
              replace H : ((render_Render.f y197).bind fun t200 => (if t188 = true then (if t196.toList = x8_1.toList then (some (t200.toList == x9_1.toList)) else (some false)) else (some false))) = some r := by first | (rw [hy197]; with_reducible exact H) | (have H2_ := (Option.bind_some _ _).symm.trans H; rw [hy197]; with_reducible exact H2_) | (have H2_ := (Option.bind_some _ _).symm.trans H; with_reducible exact H2_) | with_reducible exact H | (rw [hy197]; exact H) | exact H
              have Ny197 := Aside0.mk hy197
              clear hy197
              replace H := Option.bind_eq_some_iff.mp H
              obtain ⟨t200, A270, H⟩ := H
              replace H : (if t188 = true then (if t196.toList = x8_1.toList then (some (t200.toList == x9_1.toList)) else (some false)) else (some false)) = some r := H
              have A27 := Aside0.mk A270
              clear A270
              by_cases c28 : t188 = true
              · subst c28
                have H1 : (if t196.toList = x8_1.toList then (some (t200.toList == x9_1.toList)) else (some false)) = some r := by rw [if_pos rfl] at H; exact H
                clear H
                have H := H1
                clear H1
                by_cases c29 : t196.toList = x8_1.toList
                · rw [if_pos c29] at H
                  have c29b0 : (t196.toList == x8_1.toList) = true := beq_iff_eq.mpr c29
                  have c29b1 : (t196.toList != x8_1.toList) = false := bne_eq_false_iff_eq.mpr c29
                  clear c29
                  obtain rfl := Option.some.inj H
                  go_wp2_with (first | ((with_reducible refine gate_dst (N := 69) rfl ?_); refine Kd.S_lit k47 _ 47 ?hg (N := 69) ?hd (xs := ([(⟨1, (rdOf ByteArray.empty y189 (ji6)), (⟨#[]⟩ : ByteArray), ([] : List (S51)), false⟩ : S47), (⟨0, (⟨#[]⟩ : ByteArray), x8_1, ([] : List (S51)), false⟩ : S47), (⟨2, (rdOf ByteArray.empty y189 (ji6)), (⟨#[]⟩ : ByteArray), ([] : List (S51)), false⟩ : S47)] : List (S47))) (inner := [.int .i64 1, .string (rdOf ByteArray.empty y189 (ji6)), .string (⟨#[]⟩ : ByteArray), .slice none 0 0, .bool false, .int .i64 0, .string (⟨#[]⟩ : ByteArray), .string x8_1, .slice none 0 0, .bool false, .int .i64 2, .string (rdOf ByteArray.empty y189 (ji6)), .string (⟨#[]⟩ : ByteArray), .slice none 0 0, .bool false]) (ok := fun _ => True) (okp := fun _ => True) ?hr ?hp (fun _ hk => hk) trivial (Below.refl _ _) (Nat.le_refl _) (by simp) ?_; (case hd => rfl); (case hg => rfl); (case hr => first | (go_simp; done) | (go_simp; rfl)); (case hp => exact (Reps.c5 (show Kd.M k47 _ _ _ (⟨1, (rdOf ByteArray.empty y189 (ji6)), (⟨#[]⟩ : ByteArray), ([] : List (S51)), false⟩ : S47) [.int .i64 1, .string (rdOf ByteArray.empty y189 (ji6)), .string (⟨#[]⟩ : ByteArray), .slice none 0 0, .bool false] from (k47_mkM _ _ _ (⟨1, (rdOf ByteArray.empty y189 (ji6)), (⟨#[]⟩ : ByteArray), ([] : List (S51)), false⟩ : S47) (Kd.R_nil _ _ _ _ _))) (Reps.c5 (show Kd.M k47 _ _ _ (⟨0, (⟨#[]⟩ : ByteArray), x8_1, ([] : List (S51)), false⟩ : S47) [.int .i64 0, .string (⟨#[]⟩ : ByteArray), .string x8_1, .slice none 0 0, .bool false] from (k47_mkM _ _ _ (⟨0, (⟨#[]⟩ : ByteArray), x8_1, ([] : List (S51)), false⟩ : S47) (Kd.R_nil _ _ _ _ _))) (Reps.c5 (show Kd.M k47 _ _ _ (⟨2, (rdOf ByteArray.empty y189 (ji6)), (⟨#[]⟩ : ByteArray), ([] : List (S51)), false⟩ : S47) [.int .i64 2, .string (rdOf ByteArray.empty y189 (ji6)), .string (⟨#[]⟩ : ByteArray), .slice none 0 0, .bool false] from (k47_mkM _ _ _ (⟨2, (rdOf ByteArray.empty y189 (ji6)), (⟨#[]⟩ : ByteArray), ([] : List (S51)), false⟩ : S47) (Kd.R_nil _ _ _ _ _))) (Reps.none _ _))))); intro v194 w30 ho31 hb hg_ hnew_; clear hg_ hnew_; (first | rw [← Ny193.out] at ho31 | (simp only [Int.reduceToNat] at ho31; rw [← Ny193.out] at ho31)); have n0_ := Aside0.mk (Kd.S_lower ho31 (below_size (by repeat (first | (with_reducible first | exact HB.out | apply below_alloc | apply pw_below_drewN | apply below_drew1) | exact HB.out)))); have n1_ := Aside0.mk (below_step (by repeat (first | (with_reducible first | exact HB.out | apply below_alloc | apply pw_below_drewN | apply below_drew1) | exact HB.out)) hb); clear HB; have HO195 := n0_; have HB := n1_; clear n0_ n1_; clear hb ho31; obtain ⟨Ao32, co32, eo32⟩ := Kd.S_slice HO195.out; subst eo32) | ((with_reducible refine gate_callee (f := 27) rfl ?_); refine goesL_ (some 70) rfl rfl Try.func27 (by kernel_rfl) rfl #[.slice Ao32 y193.length co32] rfl (by (try simp only [List.map_toArray, List.map_cons, List.map_nil]); first | done | rfl | (simp only [List.length_drop, List.length_take]; rfl)) ?_; (with_reducible refine (render_Render.calls _ _ y193 t196 _ ?side1 ?side2 A26.out).mono ?_); (case side1 => repeat (first | exact (Kd.S_reads' HO195.out).2.2 | (with_reducible refine Kd.C_alloc ?_ _) | (with_reducible refine Kd.C_drewN ?_ _) | (with_reducible refine Kd.C_drew ?_))); (case side2 => exact (Kd.S_reads' HO195.out).2.1); rintro e w33 ⟨rfl, hb⟩; refine ⟨_, rfl, ?_⟩; have n0_ := Aside0.mk (Kd.S_below (by (with_reducible repeat (first | apply Kd.S_alloc | apply Kd.S_drewN | apply Kd.S_drew)); exact HO195.out) hb); have n1_ := Aside0.mk (below_step (by repeat (first | (with_reducible first | exact HB.out | apply below_alloc | apply pw_below_drewN | apply below_drew1) | exact HB.out)) hb); clear HO195; clear HB; have HO195 := n0_; have HB := n1_; clear n0_ n1_; (try clear hb); (try clear hb2); (try clear hk); (try clear hi)) | ((with_reducible refine gate_dst (N := 74) rfl ?_); refine Kd.S_lit k47 _ 47 ?hg (N := 74) ?hd (xs := ([(⟨1, (⟨#[98]⟩ : ByteArray), (⟨#[]⟩ : ByteArray), ([] : List (S51)), false⟩ : S47), (⟨0, (⟨#[]⟩ : ByteArray), x8_1, ([] : List (S51)), false⟩ : S47)] : List (S47))) (inner := [.int .i64 1, .string (⟨#[98]⟩ : ByteArray), .string (⟨#[]⟩ : ByteArray), .slice none 0 0, .bool false, .int .i64 0, .string (⟨#[]⟩ : ByteArray), .string x8_1, .slice none 0 0, .bool false]) (ok := fun _ => True) (okp := fun _ => True) ?hr ?hp (fun _ hk => hk) trivial (Below.refl _ _) (Nat.le_refl _) (by simp) ?_; (case hd => rfl); (case hg => rfl); (case hr => first | (go_simp; done) | (go_simp; rfl)); (case hp => exact (Reps.c5 (show Kd.M k47 _ _ _ (⟨1, (⟨#[98]⟩ : ByteArray), (⟨#[]⟩ : ByteArray), ([] : List (S51)), false⟩ : S47) [.int .i64 1, .string (⟨#[98]⟩ : ByteArray), .string (⟨#[]⟩ : ByteArray), .slice none 0 0, .bool false] from (k47_mkM _ _ _ (⟨1, (⟨#[98]⟩ : ByteArray), (⟨#[]⟩ : ByteArray), ([] : List (S51)), false⟩ : S47) (Kd.R_nil _ _ _ _ _))) (Reps.c5 (show Kd.M k47 _ _ _ (⟨0, (⟨#[]⟩ : ByteArray), x8_1, ([] : List (S51)), false⟩ : S47) [.int .i64 0, .string (⟨#[]⟩ : ByteArray), .string x8_1, .slice none 0 0, .bool false] from (k47_mkM _ _ _ (⟨0, (⟨#[]⟩ : ByteArray), x8_1, ([] : List (S51)), false⟩ : S47) (Kd.R_nil _ _ _ _ _))) (Reps.none _ _)))); intro v198 w34 ho35 hb hg_ hnew_; clear hg_ hnew_; (first | rw [← Ny197.out] at ho35 | (simp only [Int.reduceToNat] at ho35; rw [← Ny197.out] at ho35)); have n0_ := Aside0.mk (Kd.S_elder' (by (with_reducible repeat (first | apply Kd.S_alloc | apply Kd.S_drewN | apply Kd.S_drew)); exact HO195.out) (Kd.S_base ho35) hb); have n1_ := Aside0.mk (Kd.S_lower (Kd.S_new' ho35 (Kd.S_lt (by (with_reducible repeat (first | apply Kd.S_alloc | apply Kd.S_drewN | apply Kd.S_drew)); exact HO195.out))) (below_size (by repeat (first | (with_reducible first | exact HB.out | apply below_alloc | apply pw_below_drewN | apply below_drew1) | exact HB.out)))); have n2_ := Aside0.mk (below_step (by repeat (first | (with_reducible first | exact HB.out | apply below_alloc | apply pw_below_drewN | apply below_drew1) | exact HB.out)) hb); clear HO195; clear HB; have HO195 := n0_; have HO199 := n1_; have HB := n2_; clear n0_ n1_ n2_; clear hb ho35; obtain ⟨Ao36, co36, eo36⟩ := Kd.S_slice HO199.out; subst eo36) | ((with_reducible refine gate_callee (f := 27) rfl ?_); refine goesL_ (some 75) rfl rfl Try.func27 (by kernel_rfl) rfl #[.slice Ao36 y197.length co36] rfl (by (try simp only [List.map_toArray, List.map_cons, List.map_nil]); first | done | rfl | (simp only [List.length_drop, List.length_take]; rfl)) ?_; (with_reducible refine (render_Render.calls _ _ y197 t200 _ ?side1 ?side2 A27.out).mono ?_); (case side1 => repeat (first | exact (Kd.S_reads' HO199.out).2.2 | (with_reducible refine Kd.C_alloc ?_ _) | (with_reducible refine Kd.C_drewN ?_ _) | (with_reducible refine Kd.C_drew ?_))); (case side2 => exact (Kd.S_reads' HO199.out).2.1); rintro e w37 ⟨rfl, hb⟩; refine ⟨_, rfl, ?_⟩; have n0_ := Aside0.mk (Kd.S_below (by (with_reducible repeat (first | apply Kd.S_alloc | apply Kd.S_drewN | apply Kd.S_drew)); exact HO195.out) hb); have n1_ := Aside0.mk (Kd.S_below (by (with_reducible repeat (first | apply Kd.S_alloc | apply Kd.S_drewN | apply Kd.S_drew)); exact HO199.out) hb); have n2_ := Aside0.mk (below_step (by repeat (first | (with_reducible first | exact HB.out | apply below_alloc | apply pw_below_drewN | apply below_drew1) | exact HB.out)) hb); clear HO195; clear HO199; clear HB; have HO195 := n0_; have HO199 := n1_; have HB := n2_; clear n0_ n1_ n2_; (try clear hb); (try clear hb2); (try clear hk); (try clear hi)))
                  go_ret
                  exact ⟨by first | rfl | (simp [errW_none, errW_some] <;> rfl) | (simp only [← hji6]; first | rfl | (simp [errW_none, errW_some] <;> rfl)) | (simp [*, errW_none, errW_some] <;> rfl), by repeat (first | (with_reducible first | exact HB.out | apply below_alloc | apply pw_below_drewN | apply below_drew1) | exact HB.out)⟩
                · rw [if_neg c29] at H
                  have c29b0 : (t196.toList == x8_1.toList) = false := beq_eq_false_iff_ne.mpr c29
                  have c29b1 : (t196.toList != x8_1.toList) = true := bne_iff_ne.mpr c29
                  obtain rfl := Option.some.inj H
                  go_wp2_with (first | ((with_reducible refine gate_dst (N := 69) rfl ?_); refine Kd.S_lit k47 _ 47 ?hg (N := 69) ?hd (xs := ([(⟨1, (rdOf ByteArray.empty y189 (ji6)), (⟨#[]⟩ : ByteArray), ([] : List (S51)), false⟩ : S47), (⟨0, (⟨#[]⟩ : ByteArray), x8_1, ([] : List (S51)), false⟩ : S47), (⟨2, (rdOf ByteArray.empty y189 (ji6)), (⟨#[]⟩ : ByteArray), ([] : List (S51)), false⟩ : S47)] : List (S47))) (inner := [.int .i64 1, .string (rdOf ByteArray.empty y189 (ji6)), .string (⟨#[]⟩ : ByteArray), .slice none 0 0, .bool false, .int .i64 0, .string (⟨#[]⟩ : ByteArray), .string x8_1, .slice none 0 0, .bool false, .int .i64 2, .string (rdOf ByteArray.empty y189 (ji6)), .string (⟨#[]⟩ : ByteArray), .slice none 0 0, .bool false]) (ok := fun _ => True) (okp := fun _ => True) ?hr ?hp (fun _ hk => hk) trivial (Below.refl _ _) (Nat.le_refl _) (by simp) ?_; (case hd => rfl); (case hg => rfl); (case hr => first | (go_simp; done) | (go_simp; rfl)); (case hp => exact (Reps.c5 (show Kd.M k47 _ _ _ (⟨1, (rdOf ByteArray.empty y189 (ji6)), (⟨#[]⟩ : ByteArray), ([] : List (S51)), false⟩ : S47) [.int .i64 1, .string (rdOf ByteArray.empty y189 (ji6)), .string (⟨#[]⟩ : ByteArray), .slice none 0 0, .bool false] from (k47_mkM _ _ _ (⟨1, (rdOf ByteArray.empty y189 (ji6)), (⟨#[]⟩ : ByteArray), ([] : List (S51)), false⟩ : S47) (Kd.R_nil _ _ _ _ _))) (Reps.c5 (show Kd.M k47 _ _ _ (⟨0, (⟨#[]⟩ : ByteArray), x8_1, ([] : List (S51)), false⟩ : S47) [.int .i64 0, .string (⟨#[]⟩ : ByteArray), .string x8_1, .slice none 0 0, .bool false] from (k47_mkM _ _ _ (⟨0, (⟨#[]⟩ : ByteArray), x8_1, ([] : List (S51)), false⟩ : S47) (Kd.R_nil _ _ _ _ _))) (Reps.c5 (show Kd.M k47 _ _ _ (⟨2, (rdOf ByteArray.empty y189 (ji6)), (⟨#[]⟩ : ByteArray), ([] : List (S51)), false⟩ : S47) [.int .i64 2, .string (rdOf ByteArray.empty y189 (ji6)), .string (⟨#[]⟩ : ByteArray), .slice none 0 0, .bool false] from (k47_mkM _ _ _ (⟨2, (rdOf ByteArray.empty y189 (ji6)), (⟨#[]⟩ : ByteArray), ([] : List (S51)), false⟩ : S47) (Kd.R_nil _ _ _ _ _))) (Reps.none _ _))))); intro v194 w38 ho39 hb hg_ hnew_; clear hg_ hnew_; (first | rw [← Ny193.out] at ho39 | (simp only [Int.reduceToNat] at ho39; rw [← Ny193.out] at ho39)); have n0_ := Aside0.mk (Kd.S_lower ho39 (below_size (by repeat (first | (with_reducible first | exact HB.out | apply below_alloc | apply pw_below_drewN | apply below_drew1) | exact HB.out)))); have n1_ := Aside0.mk (below_step (by repeat (first | (with_reducible first | exact HB.out | apply below_alloc | apply pw_below_drewN | apply below_drew1) | exact HB.out)) hb); clear HB; have HO195 := n0_; have HB := n1_; clear n0_ n1_; clear hb ho39; obtain ⟨Ao40, co40, eo40⟩ := Kd.S_slice HO195.out; subst eo40) | ((with_reducible refine gate_callee (f := 27) rfl ?_); refine goesL_ (some 70) rfl rfl Try.func27 (by kernel_rfl) rfl #[.slice Ao40 y193.length co40] rfl (by (try simp only [List.map_toArray, List.map_cons, List.map_nil]); first | done | rfl | (simp only [List.length_drop, List.length_take]; rfl)) ?_; (with_reducible refine (render_Render.calls _ _ y193 t196 _ ?side1 ?side2 A26.out).mono ?_); (case side1 => repeat (first | exact (Kd.S_reads' HO195.out).2.2 | (with_reducible refine Kd.C_alloc ?_ _) | (with_reducible refine Kd.C_drewN ?_ _) | (with_reducible refine Kd.C_drew ?_))); (case side2 => exact (Kd.S_reads' HO195.out).2.1); rintro e w41 ⟨rfl, hb⟩; refine ⟨_, rfl, ?_⟩; have n0_ := Aside0.mk (Kd.S_below (by (with_reducible repeat (first | apply Kd.S_alloc | apply Kd.S_drewN | apply Kd.S_drew)); exact HO195.out) hb); have n1_ := Aside0.mk (below_step (by repeat (first | (with_reducible first | exact HB.out | apply below_alloc | apply pw_below_drewN | apply below_drew1) | exact HB.out)) hb); clear HO195; clear HB; have HO195 := n0_; have HB := n1_; clear n0_ n1_; (try clear hb); (try clear hb2); (try clear hk); (try clear hi)) | ((with_reducible refine gate_dst (N := 74) rfl ?_); refine Kd.S_lit k47 _ 47 ?hg (N := 74) ?hd (xs := ([(⟨1, (⟨#[98]⟩ : ByteArray), (⟨#[]⟩ : ByteArray), ([] : List (S51)), false⟩ : S47), (⟨0, (⟨#[]⟩ : ByteArray), x8_1, ([] : List (S51)), false⟩ : S47)] : List (S47))) (inner := [.int .i64 1, .string (⟨#[98]⟩ : ByteArray), .string (⟨#[]⟩ : ByteArray), .slice none 0 0, .bool false, .int .i64 0, .string (⟨#[]⟩ : ByteArray), .string x8_1, .slice none 0 0, .bool false]) (ok := fun _ => True) (okp := fun _ => True) ?hr ?hp (fun _ hk => hk) trivial (Below.refl _ _) (Nat.le_refl _) (by simp) ?_; (case hd => rfl); (case hg => rfl); (case hr => first | (go_simp; done) | (go_simp; rfl)); (case hp => exact (Reps.c5 (show Kd.M k47 _ _ _ (⟨1, (⟨#[98]⟩ : ByteArray), (⟨#[]⟩ : ByteArray), ([] : List (S51)), false⟩ : S47) [.int .i64 1, .string (⟨#[98]⟩ : ByteArray), .string (⟨#[]⟩ : ByteArray), .slice none 0 0, .bool false] from (k47_mkM _ _ _ (⟨1, (⟨#[98]⟩ : ByteArray), (⟨#[]⟩ : ByteArray), ([] : List (S51)), false⟩ : S47) (Kd.R_nil _ _ _ _ _))) (Reps.c5 (show Kd.M k47 _ _ _ (⟨0, (⟨#[]⟩ : ByteArray), x8_1, ([] : List (S51)), false⟩ : S47) [.int .i64 0, .string (⟨#[]⟩ : ByteArray), .string x8_1, .slice none 0 0, .bool false] from (k47_mkM _ _ _ (⟨0, (⟨#[]⟩ : ByteArray), x8_1, ([] : List (S51)), false⟩ : S47) (Kd.R_nil _ _ _ _ _))) (Reps.none _ _)))); intro v198 w42 ho43 hb hg_ hnew_; clear hg_ hnew_; (first | rw [← Ny197.out] at ho43 | (simp only [Int.reduceToNat] at ho43; rw [← Ny197.out] at ho43)); have n0_ := Aside0.mk (Kd.S_elder' (by (with_reducible repeat (first | apply Kd.S_alloc | apply Kd.S_drewN | apply Kd.S_drew)); exact HO195.out) (Kd.S_base ho43) hb); have n1_ := Aside0.mk (Kd.S_lower (Kd.S_new' ho43 (Kd.S_lt (by (with_reducible repeat (first | apply Kd.S_alloc | apply Kd.S_drewN | apply Kd.S_drew)); exact HO195.out))) (below_size (by repeat (first | (with_reducible first | exact HB.out | apply below_alloc | apply pw_below_drewN | apply below_drew1) | exact HB.out)))); have n2_ := Aside0.mk (below_step (by repeat (first | (with_reducible first | exact HB.out | apply below_alloc | apply pw_below_drewN | apply below_drew1) | exact HB.out)) hb); clear HO195; clear HB; have HO195 := n0_; have HO199 := n1_; have HB := n2_; clear n0_ n1_ n2_; clear hb ho43; obtain ⟨Ao44, co44, eo44⟩ := Kd.S_slice HO199.out; subst eo44) | ((with_reducible refine gate_callee (f := 27) rfl ?_); refine goesL_ (some 75) rfl rfl Try.func27 (by kernel_rfl) rfl #[.slice Ao44 y197.length co44] rfl (by (try simp only [List.map_toArray, List.map_cons, List.map_nil]); first | done | rfl | (simp only [List.length_drop, List.length_take]; rfl)) ?_; (with_reducible refine (render_Render.calls _ _ y197 t200 _ ?side1 ?side2 A27.out).mono ?_); (case side1 => repeat (first | exact (Kd.S_reads' HO199.out).2.2 | (with_reducible refine Kd.C_alloc ?_ _) | (with_reducible refine Kd.C_drewN ?_ _) | (with_reducible refine Kd.C_drew ?_))); (case side2 => exact (Kd.S_reads' HO199.out).2.1); rintro e w45 ⟨rfl, hb⟩; refine ⟨_, rfl, ?_⟩; have n0_ := Aside0.mk (Kd.S_below (by (with_reducible repeat (first | apply Kd.S_alloc | apply Kd.S_drewN | apply Kd.S_drew)); exact HO195.out) hb); have n1_ := Aside0.mk (Kd.S_below (by (with_reducible repeat (first | apply Kd.S_alloc | apply Kd.S_drewN | apply Kd.S_drew)); exact HO199.out) hb); have n2_ := Aside0.mk (below_step (by repeat (first | (with_reducible first | exact HB.out | apply below_alloc | apply pw_below_drewN | apply below_drew1) | exact HB.out)) hb); clear HO195; clear HO199; clear HB; have HO195 := n0_; have HO199 := n1_; have HB := n2_; clear n0_ n1_ n2_; (try clear hb); (try clear hb2); (try clear hk); (try clear hi)))
                  go_ret
                  exact ⟨by first | rfl | (simp [errW_none, errW_some] <;> rfl) | (simp only [← hji6]; first | rfl | (simp [errW_none, errW_some] <;> rfl)) | (simp [*, errW_none, errW_some] <;> rfl), by repeat (first | (with_reducible first | exact HB.out | apply below_alloc | apply pw_below_drewN | apply below_drew1) | exact HB.out)⟩
              · replace c28 := Bool.eq_false_iff.mpr c28
                subst c28
                have H1 : (some false) = some r := by rw [if_neg (show ¬ (false = true) by decide)] at H; exact H
                clear H
                have H := H1
                clear H1
                obtain rfl := Option.some.inj H
                go_wp2_with (first | ((with_reducible refine gate_dst (N := 69) rfl ?_); refine Kd.S_lit k47 _ 47 ?hg (N := 69) ?hd (xs := ([(⟨1, (rdOf ByteArray.empty y189 (ji6)), (⟨#[]⟩ : ByteArray), ([] : List (S51)), false⟩ : S47), (⟨0, (⟨#[]⟩ : ByteArray), x8_1, ([] : List (S51)), false⟩ : S47), (⟨2, (rdOf ByteArray.empty y189 (ji6)), (⟨#[]⟩ : ByteArray), ([] : List (S51)), false⟩ : S47)] : List (S47))) (inner := [.int .i64 1, .string (rdOf ByteArray.empty y189 (ji6)), .string (⟨#[]⟩ : ByteArray), .slice none 0 0, .bool false, .int .i64 0, .string (⟨#[]⟩ : ByteArray), .string x8_1, .slice none 0 0, .bool false, .int .i64 2, .string (rdOf ByteArray.empty y189 (ji6)), .string (⟨#[]⟩ : ByteArray), .slice none 0 0, .bool false]) (ok := fun _ => True) (okp := fun _ => True) ?hr ?hp (fun _ hk => hk) trivial (Below.refl _ _) (Nat.le_refl _) (by simp) ?_; (case hd => rfl); (case hg => rfl); (case hr => first | (go_simp; done) | (go_simp; rfl)); (case hp => exact (Reps.c5 (show Kd.M k47 _ _ _ (⟨1, (rdOf ByteArray.empty y189 (ji6)), (⟨#[]⟩ : ByteArray), ([] : List (S51)), false⟩ : S47) [.int .i64 1, .string (rdOf ByteArray.empty y189 (ji6)), .string (⟨#[]⟩ : ByteArray), .slice none 0 0, .bool false] from (k47_mkM _ _ _ (⟨1, (rdOf ByteArray.empty y189 (ji6)), (⟨#[]⟩ : ByteArray), ([] : List (S51)), false⟩ : S47) (Kd.R_nil _ _ _ _ _))) (Reps.c5 (show Kd.M k47 _ _ _ (⟨0, (⟨#[]⟩ : ByteArray), x8_1, ([] : List (S51)), false⟩ : S47) [.int .i64 0, .string (⟨#[]⟩ : ByteArray), .string x8_1, .slice none 0 0, .bool false] from (k47_mkM _ _ _ (⟨0, (⟨#[]⟩ : ByteArray), x8_1, ([] : List (S51)), false⟩ : S47) (Kd.R_nil _ _ _ _ _))) (Reps.c5 (show Kd.M k47 _ _ _ (⟨2, (rdOf ByteArray.empty y189 (ji6)), (⟨#[]⟩ : ByteArray), ([] : List (S51)), false⟩ : S47) [.int .i64 2, .string (rdOf ByteArray.empty y189 (ji6)), .string (⟨#[]⟩ : ByteArray), .slice none 0 0, .bool false] from (k47_mkM _ _ _ (⟨2, (rdOf ByteArray.empty y189 (ji6)), (⟨#[]⟩ : ByteArray), ([] : List (S51)), false⟩ : S47) (Kd.R_nil _ _ _ _ _))) (Reps.none _ _))))); intro v194 w46 ho47 hb hg_ hnew_; clear hg_ hnew_; (first | rw [← Ny193.out] at ho47 | (simp only [Int.reduceToNat] at ho47; rw [← Ny193.out] at ho47)); have n0_ := Aside0.mk (Kd.S_lower ho47 (below_size (by repeat (first | (with_reducible first | exact HB.out | apply below_alloc | apply pw_below_drewN | apply below_drew1) | exact HB.out)))); have n1_ := Aside0.mk (below_step (by repeat (first | (with_reducible first | exact HB.out | apply below_alloc | apply pw_below_drewN | apply below_drew1) | exact HB.out)) hb); clear HB; have HO195 := n0_; have HB := n1_; clear n0_ n1_; clear hb ho47; obtain ⟨Ao48, co48, eo48⟩ := Kd.S_slice HO195.out; subst eo48) | ((with_reducible refine gate_callee (f := 27) rfl ?_); refine goesL_ (some 70) rfl rfl Try.func27 (by kernel_rfl) rfl #[.slice Ao48 y193.length co48] rfl (by (try simp only [List.map_toArray, List.map_cons, List.map_nil]); first | done | rfl | (simp only [List.length_drop, List.length_take]; rfl)) ?_; (with_reducible refine (render_Render.calls _ _ y193 t196 _ ?side1 ?side2 A26.out).mono ?_); (case side1 => repeat (first | exact (Kd.S_reads' HO195.out).2.2 | (with_reducible refine Kd.C_alloc ?_ _) | (with_reducible refine Kd.C_drewN ?_ _) | (with_reducible refine Kd.C_drew ?_))); (case side2 => exact (Kd.S_reads' HO195.out).2.1); rintro e w49 ⟨rfl, hb⟩; refine ⟨_, rfl, ?_⟩; have n0_ := Aside0.mk (Kd.S_below (by (with_reducible repeat (first | apply Kd.S_alloc | apply Kd.S_drewN | apply Kd.S_drew)); exact HO195.out) hb); have n1_ := Aside0.mk (below_step (by repeat (first | (with_reducible first | exact HB.out | apply below_alloc | apply pw_below_drewN | apply below_drew1) | exact HB.out)) hb); clear HO195; clear HB; have HO195 := n0_; have HB := n1_; clear n0_ n1_; (try clear hb); (try clear hb2); (try clear hk); (try clear hi)) | ((with_reducible refine gate_dst (N := 74) rfl ?_); refine Kd.S_lit k47 _ 47 ?hg (N := 74) ?hd (xs := ([(⟨1, (⟨#[98]⟩ : ByteArray), (⟨#[]⟩ : ByteArray), ([] : List (S51)), false⟩ : S47), (⟨0, (⟨#[]⟩ : ByteArray), x8_1, ([] : List (S51)), false⟩ : S47)] : List (S47))) (inner := [.int .i64 1, .string (⟨#[98]⟩ : ByteArray), .string (⟨#[]⟩ : ByteArray), .slice none 0 0, .bool false, .int .i64 0, .string (⟨#[]⟩ : ByteArray), .string x8_1, .slice none 0 0, .bool false]) (ok := fun _ => True) (okp := fun _ => True) ?hr ?hp (fun _ hk => hk) trivial (Below.refl _ _) (Nat.le_refl _) (by simp) ?_; (case hd => rfl); (case hg => rfl); (case hr => first | (go_simp; done) | (go_simp; rfl)); (case hp => exact (Reps.c5 (show Kd.M k47 _ _ _ (⟨1, (⟨#[98]⟩ : ByteArray), (⟨#[]⟩ : ByteArray), ([] : List (S51)), false⟩ : S47) [.int .i64 1, .string (⟨#[98]⟩ : ByteArray), .string (⟨#[]⟩ : ByteArray), .slice none 0 0, .bool false] from (k47_mkM _ _ _ (⟨1, (⟨#[98]⟩ : ByteArray), (⟨#[]⟩ : ByteArray), ([] : List (S51)), false⟩ : S47) (Kd.R_nil _ _ _ _ _))) (Reps.c5 (show Kd.M k47 _ _ _ (⟨0, (⟨#[]⟩ : ByteArray), x8_1, ([] : List (S51)), false⟩ : S47) [.int .i64 0, .string (⟨#[]⟩ : ByteArray), .string x8_1, .slice none 0 0, .bool false] from (k47_mkM _ _ _ (⟨0, (⟨#[]⟩ : ByteArray), x8_1, ([] : List (S51)), false⟩ : S47) (Kd.R_nil _ _ _ _ _))) (Reps.none _ _)))); intro v198 w50 ho51 hb hg_ hnew_; clear hg_ hnew_; (first | rw [← Ny197.out] at ho51 | (simp only [Int.reduceToNat] at ho51; rw [← Ny197.out] at ho51)); have n0_ := Aside0.mk (Kd.S_elder' (by (with_reducible repeat (first | apply Kd.S_alloc | apply Kd.S_drewN | apply Kd.S_drew)); exact HO195.out) (Kd.S_base ho51) hb); have n1_ := Aside0.mk (Kd.S_lower (Kd.S_new' ho51 (Kd.S_lt (by (with_reducible repeat (first | apply Kd.S_alloc | apply Kd.S_drewN | apply Kd.S_drew)); exact HO195.out))) (below_size (by repeat (first | (with_reducible first | exact HB.out | apply below_alloc | apply pw_below_drewN | apply below_drew1) | exact HB.out)))); have n2_ := Aside0.mk (below_step (by repeat (first | (with_reducible first | exact HB.out | apply below_alloc | apply pw_below_drewN | apply below_drew1) | exact HB.out)) hb); clear HO195; clear HB; have HO195 := n0_; have HO199 := n1_; have HB := n2_; clear n0_ n1_ n2_; clear hb ho51; obtain ⟨Ao52, co52, eo52⟩ := Kd.S_slice HO199.out; subst eo52) | ((with_reducible refine gate_callee (f := 27) rfl ?_); refine goesL_ (some 75) rfl rfl Try.func27 (by kernel_rfl) rfl #[.slice Ao52 y197.length co52] rfl (by (try simp only [List.map_toArray, List.map_cons, List.map_nil]); first | done | rfl | (simp only [List.length_drop, List.length_take]; rfl)) ?_; (with_reducible refine (render_Render.calls _ _ y197 t200 _ ?side1 ?side2 A27.out).mono ?_); (case side1 => repeat (first | exact (Kd.S_reads' HO199.out).2.2 | (with_reducible refine Kd.C_alloc ?_ _) | (with_reducible refine Kd.C_drewN ?_ _) | (with_reducible refine Kd.C_drew ?_))); (case side2 => exact (Kd.S_reads' HO199.out).2.1); rintro e w53 ⟨rfl, hb⟩; refine ⟨_, rfl, ?_⟩; have n0_ := Aside0.mk (Kd.S_below (by (with_reducible repeat (first | apply Kd.S_alloc | apply Kd.S_drewN | apply Kd.S_drew)); exact HO195.out) hb); have n1_ := Aside0.mk (Kd.S_below (by (with_reducible repeat (first | apply Kd.S_alloc | apply Kd.S_drewN | apply Kd.S_drew)); exact HO199.out) hb); have n2_ := Aside0.mk (below_step (by repeat (first | (with_reducible first | exact HB.out | apply below_alloc | apply pw_below_drewN | apply below_drew1) | exact HB.out)) hb); clear HO195; clear HO199; clear HB; have HO195 := n0_; have HO199 := n1_; have HB := n2_; clear n0_ n1_ n2_; (try clear hb); (try clear hb2); (try clear hk); (try clear hi)))
                go_ret
                exact ⟨by first | rfl | (simp [errW_none, errW_some] <;> rfl) | (simp only [← hji6]; first | rfl | (simp [errW_none, errW_some] <;> rfl)) | (simp [*, errW_none, errW_some] <;> rfl), by repeat (first | (with_reducible first | exact HB.out | apply below_alloc | apply pw_below_drewN | apply below_drew1) | exact HB.out)⟩
      · rw [if_neg c8] at H
        exact absurd H (by simp)
    · rw [if_neg c7] at H
      exact absurd H (by simp)

/-- THE ONE PURE STATEMENT of flaillaw19_RenderKeeps: yours. -/
def flaillaw19_RenderKeeps.Pure : Prop := ∀ (l0 : List Int) (a1 : Int), l0.length ≤ maxLen → l0.length * 1 ≤ 140737488351232 → (∀ x ∈ l0, (Lit.int .u8 x).wf = true) → (Lit.int .u8 a1).wf = true → ∃ k, flaillaw19_RenderKeeps.f k l0 a1 = some true
theorem flaillaw19_RenderKeeps.walk (P : flaillaw19_RenderKeeps.Pure) (a0 : Option Addr) (len0 cap0 : Nat) (z0 : List Int) (a1 : Int) (w : World) (w0 : (a0 = none ∧ len0 = 0 ∧ cap0 = 0 ∧ z0 = []) ∨ ∃ x, a0 = some x ∧ len0 ≤ cap0 ∧ cap0 ≤ maxLen ∧ z0.length = cap0 ∧ (∀ i, i < z0.length → w.cell? (x.add i) = some (.int .u8 (z0.getD i 0))) ∧ ∀ n ∈ z0, (Lit.int .u8 n).wf = true) (y0 : len0 * 1 ≤ 140737488351232) (w1 : (Lit.int .u8 a1).wf = true) :
    Calls Try.prog 14 #[.slice a0 len0 cap0, .int .u8 a1] w fun e w' => e = .returned (.bool true) ∧ Below w.heap.size w w' := by
  obtain ⟨l0, rfl, hr0, hm0, hw0, hc0⟩ := ReadsInt.ofRowC w0
  obtain ⟨k, h⟩ := P l0 a1 hm0 y0 hw0 w1
  refine (flaillaw19_RenderKeeps.calls k _ _ l0 a1 true w (Kd.C_of_reads (d := (0 : Int)) (h1 := fun _ => rfl) hr0) hc0 h).mono ?_
  rintro e w' ⟨rfl, hd⟩
  exact ⟨rfl, hd⟩

end Go.Proofs.Ytaejicolhliecaa.PRe

/- Where blanks are kept they stay: of words with blanks between, and lines' ends, in such a tag, just these are told; without it they are one blank: of every numbers and choice, the law's call returns true. No condition. -/
namespace Go.Proofs.Ytaejicolhliecaa.Pure
open Go.RowKit Go.Proofs.Ytaejicolhliecaa.PRe Go.Proofs.Ytaejicolhliecaa.Rend Go.Proofs.YtaejicolhliecaaW.PrintWords Go.Proofs.YtaejicolhliecaaW.PrintLast
open Go.Proofs.Ytaejicolhliecaa.Flow (M isBlank)

def sp (c : UInt8) (j : Nat) : List UInt8 := if c = 10 then [] else List.replicate j 32
def en (c : UInt8) (j : Nat) : Nat := if c = 10 then j else 0
def one (j : Nat) : List UInt8 := if j = 0 then [] else [32]

/-- In the midst of a group of j blanks (c): what was told ahead of it with blanks kept (K) and lost (L). -/
structure Mid (kept : List UInt8) (K L : List UInt8) (c : UInt8) (j : Nat) : Prop where
  keep : ∀ e, M.put true kept ⟨[], [], e⟩ = ⟨K, sp c j, en c j⟩
  lose : M.put false kept ⟨[], [], 0⟩ = ⟨L, one j, 0⟩
  nk : K ≠ []
  nl : L ≠ []
  all : kept = K ++ List.replicate j c

theorem put_snoc' (k : Bool) (s : List UInt8) (c : UInt8) (m : M) : m.put k (s ++ [c]) = (m.put k s).put1 k c := by simp [Flow.M.put]

theorem mid_step {kept K L : List UInt8} {c : UInt8} {j : Nat} (h : Mid kept K L c j) (hc : c = 10 ∨ c = 32) : Mid (kept ++ [c]) K L c (j + 1) := by
  refine ⟨fun e => ?_, ?_, h.nk, h.nl, ?_⟩
  · rw [put_snoc', h.keep e]
    rcases hc with rfl | rfl
    · rfl
    · have e1 : sp 32 (j + 1) = sp 32 j ++ [32] := by
        unfold sp
        rw [if_neg (by decide), if_neg (by decide), List.replicate_succ']
      rw [e1]
      rfl
  · rw [put_snoc', h.lose]
    have hb : isBlank c = true := by rcases hc with rfl | rfl <;> decide
    have h0 : c ≠ 0 := by rcases hc with rfl | rfl <;> decide
    unfold Flow.M.put1
    rw [if_neg h0, if_pos hb, if_neg (by simp)]
    unfold Flow.M.lose one
    by_cases hj : j = 0
    · subst hj
      rfl
    · rw [if_neg hj, if_neg (by simp), if_neg (by omega)]
  · rw [h.all, List.append_assoc, ← List.replicate_succ']
theorem mid_start {kept K L : List UInt8} {c : UInt8} (h : Mid kept K L c 0) (c' : UInt8) : Mid kept K L c' 0 := by
  refine ⟨fun e => ?_, h.lose, h.nk, h.nl, by simpa using h.all⟩
  rw [h.keep e]
  unfold sp en
  by_cases h1 : c = 10 <;> by_cases h2 : c' = 10 <;> simp [h1, h2]
theorem mid_word {kept K L : List UInt8} {c : UInt8} {j : Nat} (h : Mid kept K L c j) (hc : c = 10 ∨ c = 32) : Mid (kept ++ [121]) (kept ++ [121]) (L ++ one j ++ [121]) 32 0 := by
  have hr : List.replicate (en c j) 10 ++ sp c j = List.replicate j c := by
    rcases hc with rfl | rfl
    · simp [en, sp]
    · simp [en, sp]
  refine ⟨fun e => ?_, ?_, by simp, by simp, by simp⟩
  · rw [put_snoc', h.keep e, h.all]
    have : M.put1 true 121 ⟨K, sp c j, en c j⟩ = M.word 121 ⟨K, sp c j, en c j⟩ := rfl
    rw [this]
    unfold Flow.M.word
    simp only
    rw [if_neg h.nk, List.append_assoc K, hr]
    rfl
  · rw [put_snoc', h.lose]
    have : M.put1 false 121 ⟨L, one j, 0⟩ = M.word 121 ⟨L, one j, 0⟩ := rfl
    rw [this]
    unfold Flow.M.word
    simp only
    rw [if_neg h.nl]
    simp [one]
theorem mid_first : Mid [120] [120] [120] 32 0 := ⟨fun e => rfl, rfl, by simp, by simp, rfl⟩

theorem tag_told (n : ByteArray) (m : M) : (tagM n m).told = m.told := by
  unfold tagM brM
  split <;> split <;> rfl
theorem tag_none (n : ByteArray) : ∃ e, tagM n M.none = ⟨[], [], e⟩ := by
  unfold tagM brM
  split <;> split <;> exact ⟨_, rfl⟩

structure Keeper (name : ByteArray) : Prop where
  hides : hasN LH name = false
  keeps : hasN LK name = true

theorem body_nil (n : ByteArray) : bodyN n [] = [] := by
  unfold bodyN noHead
  split <;> rfl

theorem told_kept {name kept : ByteArray} {K L : List UInt8} (hk : Keeper name) (h : Mid kept.data.toList K L 32 0) : told [⟨1, name, ⟨#[]⟩, [], false⟩, ⟨0, ⟨#[]⟩, kept, [], false⟩, ⟨2, name, ⟨#[]⟩, [], false⟩] = kept.data.toList := by
  obtain ⟨e, he⟩ := tag_none name
  have h1 : Pg.none.step ⟨1, name, ⟨#[]⟩, [], false⟩ = ⟨[], 1, ⟨[], [], e⟩⟩ := by
    show Pg.none.start name = _
    unfold Pg.start
    rw [hk.hides, hk.keeps]
    show (if bodyN name [] = [] then _ else _) = _
    rw [body_nil]
    simp only [if_true]
    show (⟨[], 0 + 1, tagM name M.none⟩ : Pg) = _
    rw [he]
  have h2 : (⟨[], 1, ⟨[], [], e⟩⟩ : Pg).step ⟨0, ⟨#[]⟩, kept, [], false⟩ = ⟨[], 1, ⟨kept.data.toList, [], 0⟩⟩ := by
    show (⟨[], 1, ⟨[], [], e⟩⟩ : Pg).text kept = _
    unfold Pg.text
    rw [if_pos rfl]
    show (⟨[], 1, M.put true kept.data.toList ⟨[], [], e⟩⟩ : Pg) = _
    rw [h.keep e]
    have := h.all
    simp only [List.replicate_zero, List.append_nil] at this
    rw [← this]
    rfl
  have h3 : ((⟨[], 1, ⟨kept.data.toList, [], 0⟩⟩ : Pg).step ⟨2, name, ⟨#[]⟩, [], false⟩).m.told = kept.data.toList := by
    show ((⟨[], 1, ⟨kept.data.toList, [], 0⟩⟩ : Pg).close name).m.told = _
    unfold Pg.close
    simp only [lastN, if_true]
    exact tag_told name _
  unfold told Pg.all
  simp only [List.foldl_cons, List.foldl_nil]
  rw [h1, h2]
  exact h3
theorem told_lost {kept : ByteArray} {K L : List UInt8} (h : Mid kept.data.toList K L 32 0) : told [⟨1, ⟨#[98]⟩, ⟨#[]⟩, [], false⟩, ⟨0, ⟨#[]⟩, kept, [], false⟩] = L := by
  have h1 : Pg.none.step ⟨1, ⟨#[98]⟩, ⟨#[]⟩, [], false⟩ = ⟨[], 0, ⟨[], [], 0⟩⟩ := by
    rw [step_D]
    rfl
  have h2 : (⟨[], 0, ⟨[], [], 0⟩⟩ : Pg).step ⟨0, ⟨#[]⟩, kept, [], false⟩ = ⟨[], 0, ⟨L, [], 0⟩⟩ := by
    show (⟨[], 0, ⟨[], [], 0⟩⟩ : Pg).text kept = _
    unfold Pg.text
    rw [if_pos rfl]
    show (⟨[], 0, M.put false kept.data.toList ⟨[], [], 0⟩⟩ : Pg) = _
    rw [h.lose]
    rfl
  unfold told Pg.all
  simp only [List.foldl_cons, List.foldl_nil]
  rw [h1, h2]

theorem app_data (a b : ByteArray) : (a ++ b).data.toList = a.data.toList ++ b.data.toList := by simp [ByteArray.data_append]
theorem wrap_id' {a : Int} (h : 0 ≤ a ∧ a ≤ 1000000) : wrap64 a = a := by unfold wrap64; omega
theorem sz (s : ByteArray) : s.size = s.data.toList.length := by simp

theorem fin_at (l : List Int) (name : ByteArray) (hk : Keeper name) (k : Nat) (kept lost : ByteArray) {K L : List UInt8} (h : Mid kept.data.toList K L 32 0) (hL : lost.data.toList = L) (hs : kept.size ≤ 1000) : flaillaw19_RenderKeeps.l0 (k + 1) l true name kept lost (l.length : Int) = some true := by
  simp only [flaillaw19_RenderKeeps.l0]
  rw [if_neg (by omega)]
  have f1 : fits [⟨1, name, ⟨#[]⟩, [], false⟩, ⟨0, ⟨#[]⟩, kept, [], false⟩, ⟨2, name, ⟨#[]⟩, [], false⟩] = true := fits_mk (by simp) (fun x hx => by
    simp only [List.mem_cons, List.not_mem_nil, or_false] at hx
    rcases hx with rfl | rfl | rfl
    · simp [ByteArray.size]
    · simp only; omega
    · simp [ByteArray.size]) (fun x hx => by
    simp only [List.mem_cons, List.not_mem_nil, or_false] at hx
    rcases hx with rfl | rfl | rfl <;> rfl)
  have f2 : fits [⟨1, ⟨#[98]⟩, ⟨#[]⟩, [], false⟩, ⟨0, ⟨#[]⟩, kept, [], false⟩] = true := fits_mk (by simp) (fun x hx => by
    simp only [List.mem_cons, List.not_mem_nil, or_false] at hx
    rcases hx with rfl | rfl
    · simp [ByteArray.size]
    · simp only; omega) (fun x hx => by
    simp only [List.mem_cons, List.not_mem_nil, or_false] at hx
    rcases hx with rfl | rfl <;> rfl)
  rw [render_eq f1, Option.bind_some, render_eq f2, Option.bind_some, told_kept hk h, told_lost h, ← hL]
  simp [ByteArray.toList_eq]

theorem l1_at (l : List Int) (hl : l.length ≤ 60) (name : ByteArray) (i : Nat) (hi : i < l.length) (d : Nat) (hd : Int.tmod l[i] 4 = (d : Int)) (hd3 : d ≤ 3) (c : UInt8) (hc : c = if l[i] ≥ 128 then 10 else 32) (N : Nat)
    (next : ∀ k kept lost K L, N ≤ k → Mid kept.data.toList K L 32 0 → lost.data.toList = L → kept.size ≤ 4 * (i + 1) + 1 → lost.size ≤ 2 * (i + 1) + 1 → flaillaw19_RenderKeeps.l0 k l true name kept lost ((i + 1 : Nat) : Int) = some true) (q : Nat) :
    ∀ (j k : Nat) (kept lost : ByteArray) (K L : List UInt8), d - j = q → j ≤ d → N + q + 1 ≤ k → Mid kept.data.toList K L c j → lost.data.toList = L → kept.size ≤ 4 * i + 1 + j → lost.size ≤ 2 * i + 1 →
      flaillaw19_RenderKeeps.l1 k l true name kept lost (i : Int) (j : Int) = some true := by
  have hc2 : c = 10 ∨ c = 32 := by
    rw [hc]
    split
    · exact Or.inl rfl
    · exact Or.inr rfl
  have hrd : rd l (i : Int) = l[i] := by simp [rd, hi]
  induction q with
  | zero =>
    intro j k kept lost K L hq hj hk0 hm hL hs1 hs2
    obtain ⟨k, rfl⟩ : ∃ m, k = m + 1 := ⟨k - 1, by omega⟩
    obtain rfl : j = d := by omega
    simp only [flaillaw19_RenderKeeps.l1]
    have e1 : (⟨#[121]⟩ : ByteArray).data.toList = [121] := rfl
    have e2 : (⟨#[32]⟩ : ByteArray).data.toList = [32] := rfl
    rw [if_pos (by omega), if_pos (by omega), hrd, hd, wrap_id' (by omega), if_neg (by omega), wrap_id' (a := (i : Int) + 1) (by omega), show (i : Int) + 1 = ((i + 1 : Nat) : Int) by omega]
    have hm2 := mid_word hm hc2
    by_cases hp : (j : Int) > 0
    · rw [if_pos hp, if_pos (by omega), if_pos (by omega), if_pos (by rw [ByteArray.size_append]; show lost.size + 1 + 1 ≤ _; omega)]
      refine next k _ _ _ _ (by omega) (by rw [app_data, e1]; exact hm2) (by rw [app_data, app_data, e1, e2, hL]; unfold one; rw [if_neg (by omega)]) (by rw [ByteArray.size_append]; show kept.size + 1 ≤ _; omega) (by rw [ByteArray.size_append, ByteArray.size_append]; show lost.size + 1 + 1 ≤ _; omega)
    · rw [if_neg hp, if_pos (by omega), if_pos (by omega)]
      refine next k _ _ _ _ (by omega) (by rw [app_data, e1]; exact hm2) (by rw [app_data, e1, hL]; unfold one; rw [if_pos (by omega)]; simp) (by rw [ByteArray.size_append]; show kept.size + 1 ≤ _; omega) (by rw [ByteArray.size_append]; show lost.size + 1 ≤ _; omega)
  | succ q ih =>
    intro j k kept lost K L hq hj hk0 hm hL hs1 hs2
    obtain ⟨k, rfl⟩ : ∃ m, k = m + 1 := ⟨k - 1, by omega⟩
    simp only [flaillaw19_RenderKeeps.l1]
    have hm2 := mid_step hm hc2
    rw [if_pos (by omega), if_pos (by omega), hrd, hd, wrap_id' (by omega), if_pos (by omega), wrap_id' (a := (j : Int) + 1) (by omega), show (j : Int) + 1 = ((j + 1 : Nat) : Int) by omega]
    by_cases hg : l[i] ≥ 128
    · rw [if_pos hg] at hc
      subst hc
      have e1 : (⟨#[10]⟩ : ByteArray).data.toList = [10] := rfl
      rw [if_pos hg, if_pos (by omega)]
      exact ih (j + 1) k _ lost K L (by omega) (by omega) (by omega) (by rw [app_data, e1]; exact hm2) hL (by rw [ByteArray.size_append]; show kept.size + 1 ≤ _; omega) hs2
    · rw [if_neg hg] at hc
      subst hc
      have e1 : (⟨#[32]⟩ : ByteArray).data.toList = [32] := rfl
      rw [if_neg hg, if_pos (by omega)]
      exact ih (j + 1) k _ lost K L (by omega) (by omega) (by omega) (by rw [app_data, e1]; exact hm2) hL (by rw [ByteArray.size_append]; show kept.size + 1 ≤ _; omega) hs2

theorem l0_at (l : List Int) (hl : l.length ≤ 60) (hw : ∀ x ∈ l, 0 ≤ x ∧ x ≤ 255) (name : ByteArray) (hk : Keeper name) (q : Nat) : ∀ (i k : Nat) (kept lost : ByteArray) (K L : List UInt8), l.length - i = q → i ≤ l.length → 5 * q + 1 ≤ k → Mid kept.data.toList K L 32 0 → lost.data.toList = L → kept.size ≤ 4 * i + 1 → lost.size ≤ 2 * i + 1 →
    flaillaw19_RenderKeeps.l0 k l true name kept lost (i : Int) = some true := by
  induction q with
  | zero =>
    intro i k kept lost K L hq hi hk0 hm hL hs1 hs2
    obtain ⟨k, rfl⟩ : ∃ m, k = m + 1 := ⟨k - 1, by omega⟩
    obtain rfl : i = l.length := by omega
    exact fin_at l name hk k kept lost hm hL (by omega)
  | succ q ih =>
    intro i k kept lost K L hq hi hk0 hm hL hs1 hs2
    obtain ⟨k, rfl⟩ : ∃ m, k = m + 1 := ⟨k - 1, by omega⟩
    have hlt : i < l.length := by omega
    have hr := hw l[i] (List.getElem_mem hlt)
    simp only [flaillaw19_RenderKeeps.l0]
    rw [if_pos (by omega)]
    obtain ⟨d, hd, hd3⟩ : ∃ d : Nat, Int.tmod l[i] 4 = (d : Int) ∧ d ≤ 3 := by
      have h1 : Int.tmod l[i] 4 = l[i] % 4 := Int.tmod_eq_emod_of_nonneg hr.1
      exact ⟨(l[i] % 4).toNat, by omega, by omega⟩
    exact l1_at l hl name i hlt d hd hd3 _ rfl (5 * q + 1) (fun k kept lost K L h1 h2 h3 h4 h5 => ih (i + 1) k kept lost K L (by omega) (by omega) h1 h2 h3 h4 h5) d 0 k kept lost K L (by omega) (by omega) (by omega) (mid_start hm _) hL (by omega) hs2

def keepers : List ByteArray := [⟨#[112, 114, 101]⟩, ⟨#[116, 101, 120, 116, 97, 114, 101, 97]⟩, ⟨#[108, 105, 115, 116, 105, 110, 103]⟩, ⟨#[120, 109, 112]⟩, ⟨#[112, 108, 97, 105, 110, 116, 101, 120, 116]⟩]
theorem keepers_all : keepers.all (fun n => !hasD LH n && hasD LK n) = true := by decide +kernel

theorem RenderKeeps : flaillaw19_RenderKeeps.Pure := by
  intro l a1 _ _ hw ha
  refine ⟨400, ?_⟩
  have hb := bounds_u8 ha
  have hw' : ∀ x ∈ l, 0 ≤ x ∧ x ≤ 255 := fun x hx => bounds_u8 (hw x hx)
  unfold flaillaw19_RenderKeeps.f
  rw [Rend.awake_at, Option.bind_some]
  by_cases hl : l.length ≤ 60
  · rw [if_neg (by omega)]
    have hm : Int.tmod a1 5 = a1 % 5 := Int.tmod_eq_emod_of_nonneg hb.1
    obtain ⟨i, hi⟩ : ∃ i : Nat, a1 % 5 = (i : Int) := ⟨(a1 % 5).toNat, by omega⟩
    have hil : i < keepers.length := by show i < 5; omega
    have hrd : rdOf ByteArray.empty keepers (i : Int) = keepers[i] := by simp [rdOf, hil]
    have hall := List.all_eq_true.1 keepers_all keepers[i] (List.getElem_mem hil)
    simp only [Bool.and_eq_true, Bool.not_eq_true'] at hall
    rw [Option.bind_some, wrap_id' (by omega), hm, hi, if_pos (by omega)]
    show (if (i : Int) < (keepers.length : Int) then flaillaw19_RenderKeeps.l0 400 l true (rdOf ByteArray.empty keepers (i : Int)) ⟨#[120]⟩ ⟨#[120]⟩ 0 else none) = some true
    rw [if_pos (by omega), hrd]
    exact l0_at l hl hw' keepers[i] ⟨by rw [hasN_D]; exact hall.1, by rw [hasN_D]; exact hall.2⟩ l.length 0 400 ⟨#[120]⟩ ⟨#[120]⟩ _ _ (by omega) (by omega) (by omega) mid_first rfl (by decide) (by decide)
  · rw [if_pos (by omega)]
end Go.Proofs.Ytaejicolhliecaa.Pure
