/- KindsCase: the walk of the law's function over the printed contracts of what it calls; written by a program after the print, with facts on lengths besides. -/
import Derived.Test.YtccdjphflnghlaaPKindsCasex0
import Derived.Test.YtccdjphflnghlaaPKindsCasex1
namespace Go.Proofs.Ytccdjphflnghlaa.HKindsCase
open Go.Proofs.Ytccdjphflnghlaa.PKindsCase Go.RowKit Go.Proofs.YtccdjphflnghlaaW.PrintWords Go.Proofs.YtccdjphflnghlaaW.PrintLast Go.Proofs.YtccdjphflnghlaaW.PrintMore
attribute [local go_sem] max2_int min2_int max_two min_two max_three min_three max_four min_four   -- for this text's walks alone
set_option linter.unusedVariables false
set_option linter.unusedSimpArgs false

/-! ### flaillaw17_KindsCase: function 7 -/
def flaillaw17_KindsCase.j0 : Nat → Bool → ByteArray → Int → Int → Bool → Option (Bool)
  | 0, _, _, _, _, _ => none
  | k + 1, x5, x7, x8, x9, x37 => if x37 = true then (some x5) else (if 0 ≤ x8 then (if x8 ≤ (x7.size : Int) then ((some (([(x9 - 32) % 256] : List Int) : List Int)).bind fun y142 => (if (x7.extract 0 (x8 : Int).toNat).size + (strOfNums y142).size ≤ 9223372036854775807 then (if 0 ≤ (wrap64 (x8 + 1)) then (if (wrap64 (x8 + 1)) ≤ (x7.size : Int) then (if ((x7.extract 0 (x8 : Int).toNat) ++ (strOfNums y142)).size + (x7.extract ((wrap64 (x8 + 1)) : Int).toNat x7.size).size ≤ 9223372036854775807 then (if x5 = true then ((kinds_Hides.f k (((x7.extract 0 (x8 : Int).toNat) ++ (strOfNums y142)) ++ (x7.extract ((wrap64 (x8 + 1)) : Int).toNat x7.size))).bind fun t145 => (if t145 = true then (some false) else ((kinds_Keeps.f k (((x7.extract 0 (x8 : Int).toNat) ++ (strOfNums y142)) ++ (x7.extract ((wrap64 (x8 + 1)) : Int).toNat x7.size))).bind fun t146 => (if t146 = true then (some false) else ((kinds_Void.f k (((x7.extract 0 (x8 : Int).toNat) ++ (strOfNums y142)) ++ (x7.extract ((wrap64 (x8 + 1)) : Int).toNat x7.size))).bind fun t147 => (if t147 = true then (some false) else ((kinds_Lines.f k (((x7.extract 0 (x8 : Int).toNat) ++ (strOfNums y142)) ++ (x7.extract ((wrap64 (x8 + 1)) : Int).toNat x7.size))).bind fun t148 => (some (t148 == 0))))))))) else (some false)) else (none)) else (none)) else (none)) else (none))) else (none)) else (none))
def flaillaw17_KindsCase.f (k : Nat) (a0 : Int) (a1 : Int) : Option (Bool) := (flaillaw17_awake.f k).bind fun t137 => ((flailref17_Names.f).bind fun t138 => (if (t138.length : Int) = 0 then (none) else (if 0 ≤ (Int.tmod (wrap64 (a0)) (t138.length : Int)) then (if (Int.tmod (wrap64 (a0)) (t138.length : Int)) < (t138.length : Int) then (if (rdOf ByteArray.empty t138 (Int.tmod (wrap64 (a0)) (t138.length : Int))).toList = ([] : List UInt8) then (some t137) else (if ((rdOf ByteArray.empty t138 (Int.tmod (wrap64 (a0)) (t138.length : Int))).size : Int) = 0 then (none) else (if 0 ≤ (Int.tmod (wrap64 (a1)) ((rdOf ByteArray.empty t138 (Int.tmod (wrap64 (a0)) (t138.length : Int))).size : Int)) then (if (Int.tmod (wrap64 (a1)) ((rdOf ByteArray.empty t138 (Int.tmod (wrap64 (a0)) (t138.length : Int))).size : Int)) < ((rdOf ByteArray.empty t138 (Int.tmod (wrap64 (a0)) (t138.length : Int))).size : Int) then (if (bt (rdOf ByteArray.empty t138 (Int.tmod (wrap64 (a0)) (t138.length : Int))) (Int.tmod (wrap64 (a1)) ((rdOf ByteArray.empty t138 (Int.tmod (wrap64 (a0)) (t138.length : Int))).size : Int))) < 97 then (flaillaw17_KindsCase.j0 k t137 (rdOf ByteArray.empty t138 (Int.tmod (wrap64 (a0)) (t138.length : Int))) (Int.tmod (wrap64 (a1)) ((rdOf ByteArray.empty t138 (Int.tmod (wrap64 (a0)) (t138.length : Int))).size : Int)) (bt (rdOf ByteArray.empty t138 (Int.tmod (wrap64 (a0)) (t138.length : Int))) (Int.tmod (wrap64 (a1)) ((rdOf ByteArray.empty t138 (Int.tmod (wrap64 (a0)) (t138.length : Int))).size : Int))) true) else (flaillaw17_KindsCase.j0 k t137 (rdOf ByteArray.empty t138 (Int.tmod (wrap64 (a0)) (t138.length : Int))) (Int.tmod (wrap64 (a1)) ((rdOf ByteArray.empty t138 (Int.tmod (wrap64 (a0)) (t138.length : Int))).size : Int)) (bt (rdOf ByteArray.empty t138 (Int.tmod (wrap64 (a0)) (t138.length : Int))) (Int.tmod (wrap64 (a1)) ((rdOf ByteArray.empty t138 (Int.tmod (wrap64 (a0)) (t138.length : Int))).size : Int))) (decide ((bt (rdOf ByteArray.empty t138 (Int.tmod (wrap64 (a0)) (t138.length : Int))) (Int.tmod (wrap64 (a1)) ((rdOf ByteArray.empty t138 (Int.tmod (wrap64 (a0)) (t138.length : Int))).size : Int))) > 122)))) else (none)) else (none)))) else (none)) else (none))))
theorem flaillaw17_KindsCase.mono_l : ∀ k, (∀ y0 y1 y2 y3 y4, LeO (flaillaw17_KindsCase.j0 k y0 y1 y2 y3 y4) (flaillaw17_KindsCase.j0 (k + 1) y0 y1 y2 y3 y4))
  | 0 => fun _ _ _ _ _ r h => by simp [flaillaw17_KindsCase.j0] at h
  | k + 1 => by
    have ih0 := flaillaw17_KindsCase.mono_l k
    · intro y0 y1 y2 y3 y4
      unfold flaillaw17_KindsCase.j0
      repeat' first
      | (with_reducible exact ih0 _ _ _ _ _)
      | (with_reducible exact flaillaw17_awake.mono _)
      | (with_reducible exact kinds_Hides.mono _ _)
      | (with_reducible exact kinds_Keeps.mono _ _)
      | (with_reducible exact kinds_Lines.mono _ _)
      | (with_reducible exact kinds_Void.mono _ _)
      | (with_reducible exact LeO.refl _)
      | (with_reducible exact LeO.none _)
      | (with_reducible refine LeO.ite ?_ ?_)
      | (with_reducible refine LeO.bind ?_ (fun _ => ?_))
      | exact ih0 _ _ _ _ _
      | exact flaillaw17_awake.mono _
      | exact kinds_Hides.mono _ _
      | exact kinds_Keeps.mono _ _
      | exact kinds_Lines.mono _ _
      | exact kinds_Void.mono _ _
      | exact LeO.none _
      | refine LeO.ite ?_ ?_
      | refine LeO.bind ?_ (fun _ => ?_)
theorem flaillaw17_KindsCase.mono : ∀ a0 a1 k, LeO (flaillaw17_KindsCase.f k a0 a1) (flaillaw17_KindsCase.f (k + 1) a0 a1) := by
  intro a0 a1 k
  have ih0 := flaillaw17_KindsCase.mono_l k
  unfold flaillaw17_KindsCase.f
  repeat' first
      | (with_reducible exact ih0 _ _ _ _ _)
      | (with_reducible exact flaillaw17_awake.mono _)
      | (with_reducible exact kinds_Hides.mono _ _)
      | (with_reducible exact kinds_Keeps.mono _ _)
      | (with_reducible exact kinds_Lines.mono _ _)
      | (with_reducible exact kinds_Void.mono _ _)
      | (with_reducible exact LeO.refl _)
      | (with_reducible exact LeO.none _)
      | (with_reducible refine LeO.ite ?_ ?_)
      | (with_reducible refine LeO.bind ?_ (fun _ => ?_))
      | exact ih0 _ _ _ _ _
      | exact flaillaw17_awake.mono _
      | exact kinds_Hides.mono _ _
      | exact kinds_Keeps.mono _ _
      | exact kinds_Lines.mono _ _
      | exact kinds_Void.mono _ _
      | exact LeO.none _
      | refine LeO.ite ?_ ?_
      | refine LeO.bind ?_ (fun _ => ?_)
def flaillaw17_KindsCase.T10 : Bool × List (List Nat × List Nat) := (true, [([], []), ([], []), ([0, 1], [0, 1]), ([], []), ([3], [3]), ([4], [4]), ([5], [5]), ([2, 6], [2, 6]), ([], []), ([], []), ([9], [9]), ([8, 10], [8, 10]), ([7, 11], [7, 11]), ([12, 0, 1, 2, 3, 4, 5, 6, 7, 8, 9, 10, 11, 12], [12])])
def flaillaw17_KindsCase.B10 : List Nat := [0, 0, 3, 0, 8, 24, 56, 127, 0, 0, 512, 1792, 4095, 8191]
theorem flaillaw17_KindsCase.tab10 : rtab .any (opsOf Try.f7 10) = flaillaw17_KindsCase.T10 := by kernel_rfl
theorem flaillaw17_KindsCase.bits10 : waitsOk flaillaw17_KindsCase.T10.2 flaillaw17_KindsCase.B10 = true := by kernel_rfl
set_option maxHeartbeats 8000000 in
set_option maxRecDepth 100000 in
theorem flaillaw17_KindsCase.calls (k : Nat) (a0 : Int) (a1 : Int) (r : Bool) (w : World) (h : flaillaw17_KindsCase.f k a0 a1 = some r) :
    Calls Try.prog 7 #[.int .u16 a0, .int .u8 a1] w fun e w' => e = .returned (.bool r) ∧ Below w.heap.size w w' := by
  have HB := Aside0.mk (Below.refl w.heap.size w)
  have H : ((flaillaw17_awake.f k).bind fun t137 => ((flailref17_Names.f).bind fun t138 => (if (t138.length : Int) = 0 then (none) else (if 0 ≤ (Int.tmod (wrap64 (a0)) (t138.length : Int)) then (if (Int.tmod (wrap64 (a0)) (t138.length : Int)) < (t138.length : Int) then (if (rdOf ByteArray.empty t138 (Int.tmod (wrap64 (a0)) (t138.length : Int))).toList = ([] : List UInt8) then (some t137) else (if ((rdOf ByteArray.empty t138 (Int.tmod (wrap64 (a0)) (t138.length : Int))).size : Int) = 0 then (none) else (if 0 ≤ (Int.tmod (wrap64 (a1)) ((rdOf ByteArray.empty t138 (Int.tmod (wrap64 (a0)) (t138.length : Int))).size : Int)) then (if (Int.tmod (wrap64 (a1)) ((rdOf ByteArray.empty t138 (Int.tmod (wrap64 (a0)) (t138.length : Int))).size : Int)) < ((rdOf ByteArray.empty t138 (Int.tmod (wrap64 (a0)) (t138.length : Int))).size : Int) then (if (bt (rdOf ByteArray.empty t138 (Int.tmod (wrap64 (a0)) (t138.length : Int))) (Int.tmod (wrap64 (a1)) ((rdOf ByteArray.empty t138 (Int.tmod (wrap64 (a0)) (t138.length : Int))).size : Int))) < 97 then (flaillaw17_KindsCase.j0 k t137 (rdOf ByteArray.empty t138 (Int.tmod (wrap64 (a0)) (t138.length : Int))) (Int.tmod (wrap64 (a1)) ((rdOf ByteArray.empty t138 (Int.tmod (wrap64 (a0)) (t138.length : Int))).size : Int)) (bt (rdOf ByteArray.empty t138 (Int.tmod (wrap64 (a0)) (t138.length : Int))) (Int.tmod (wrap64 (a1)) ((rdOf ByteArray.empty t138 (Int.tmod (wrap64 (a0)) (t138.length : Int))).size : Int))) true) else (flaillaw17_KindsCase.j0 k t137 (rdOf ByteArray.empty t138 (Int.tmod (wrap64 (a0)) (t138.length : Int))) (Int.tmod (wrap64 (a1)) ((rdOf ByteArray.empty t138 (Int.tmod (wrap64 (a0)) (t138.length : Int))).size : Int)) (bt (rdOf ByteArray.empty t138 (Int.tmod (wrap64 (a0)) (t138.length : Int))) (Int.tmod (wrap64 (a1)) ((rdOf ByteArray.empty t138 (Int.tmod (wrap64 (a0)) (t138.length : Int))).size : Int))) (decide ((bt (rdOf ByteArray.empty t138 (Int.tmod (wrap64 (a0)) (t138.length : Int))) (Int.tmod (wrap64 (a1)) ((rdOf ByteArray.empty t138 (Int.tmod (wrap64 (a0)) (t138.length : Int))).size : Int))) > 122)))) else (none)) else (none)))) else (none)) else (none))))) = some r := h
  clear h
  replace H := Option.bind_eq_some_iff.mp H
  obtain ⟨t137, A30, H⟩ := H
  replace H : ((flailref17_Names.f).bind fun t138 => (if (t138.length : Int) = 0 then (none) else (if 0 ≤ (Int.tmod (wrap64 (a0)) (t138.length : Int)) then (if (Int.tmod (wrap64 (a0)) (t138.length : Int)) < (t138.length : Int) then (if (rdOf ByteArray.empty t138 (Int.tmod (wrap64 (a0)) (t138.length : Int))).toList = ([] : List UInt8) then (some t137) else (if ((rdOf ByteArray.empty t138 (Int.tmod (wrap64 (a0)) (t138.length : Int))).size : Int) = 0 then (none) else (if 0 ≤ (Int.tmod (wrap64 (a1)) ((rdOf ByteArray.empty t138 (Int.tmod (wrap64 (a0)) (t138.length : Int))).size : Int)) then (if (Int.tmod (wrap64 (a1)) ((rdOf ByteArray.empty t138 (Int.tmod (wrap64 (a0)) (t138.length : Int))).size : Int)) < ((rdOf ByteArray.empty t138 (Int.tmod (wrap64 (a0)) (t138.length : Int))).size : Int) then (if (bt (rdOf ByteArray.empty t138 (Int.tmod (wrap64 (a0)) (t138.length : Int))) (Int.tmod (wrap64 (a1)) ((rdOf ByteArray.empty t138 (Int.tmod (wrap64 (a0)) (t138.length : Int))).size : Int))) < 97 then (flaillaw17_KindsCase.j0 k t137 (rdOf ByteArray.empty t138 (Int.tmod (wrap64 (a0)) (t138.length : Int))) (Int.tmod (wrap64 (a1)) ((rdOf ByteArray.empty t138 (Int.tmod (wrap64 (a0)) (t138.length : Int))).size : Int)) (bt (rdOf ByteArray.empty t138 (Int.tmod (wrap64 (a0)) (t138.length : Int))) (Int.tmod (wrap64 (a1)) ((rdOf ByteArray.empty t138 (Int.tmod (wrap64 (a0)) (t138.length : Int))).size : Int))) true) else (flaillaw17_KindsCase.j0 k t137 (rdOf ByteArray.empty t138 (Int.tmod (wrap64 (a0)) (t138.length : Int))) (Int.tmod (wrap64 (a1)) ((rdOf ByteArray.empty t138 (Int.tmod (wrap64 (a0)) (t138.length : Int))).size : Int)) (bt (rdOf ByteArray.empty t138 (Int.tmod (wrap64 (a0)) (t138.length : Int))) (Int.tmod (wrap64 (a1)) ((rdOf ByteArray.empty t138 (Int.tmod (wrap64 (a0)) (t138.length : Int))).size : Int))) (decide ((bt (rdOf ByteArray.empty t138 (Int.tmod (wrap64 (a0)) (t138.length : Int))) (Int.tmod (wrap64 (a1)) ((rdOf ByteArray.empty t138 (Int.tmod (wrap64 (a0)) (t138.length : Int))).size : Int))) > 122)))) else (none)) else (none)))) else (none)) else (none)))) = some r := H
  have A3 := Aside0.mk A30
  clear A30
  replace H := Option.bind_eq_some_iff.mp H
  obtain ⟨t138, A40, H⟩ := H
  replace H : (if (t138.length : Int) = 0 then (none) else (if 0 ≤ (Int.tmod (wrap64 (a0)) (t138.length : Int)) then (if (Int.tmod (wrap64 (a0)) (t138.length : Int)) < (t138.length : Int) then (if (rdOf ByteArray.empty t138 (Int.tmod (wrap64 (a0)) (t138.length : Int))).toList = ([] : List UInt8) then (some t137) else (if ((rdOf ByteArray.empty t138 (Int.tmod (wrap64 (a0)) (t138.length : Int))).size : Int) = 0 then (none) else (if 0 ≤ (Int.tmod (wrap64 (a1)) ((rdOf ByteArray.empty t138 (Int.tmod (wrap64 (a0)) (t138.length : Int))).size : Int)) then (if (Int.tmod (wrap64 (a1)) ((rdOf ByteArray.empty t138 (Int.tmod (wrap64 (a0)) (t138.length : Int))).size : Int)) < ((rdOf ByteArray.empty t138 (Int.tmod (wrap64 (a0)) (t138.length : Int))).size : Int) then (if (bt (rdOf ByteArray.empty t138 (Int.tmod (wrap64 (a0)) (t138.length : Int))) (Int.tmod (wrap64 (a1)) ((rdOf ByteArray.empty t138 (Int.tmod (wrap64 (a0)) (t138.length : Int))).size : Int))) < 97 then (flaillaw17_KindsCase.j0 k t137 (rdOf ByteArray.empty t138 (Int.tmod (wrap64 (a0)) (t138.length : Int))) (Int.tmod (wrap64 (a1)) ((rdOf ByteArray.empty t138 (Int.tmod (wrap64 (a0)) (t138.length : Int))).size : Int)) (bt (rdOf ByteArray.empty t138 (Int.tmod (wrap64 (a0)) (t138.length : Int))) (Int.tmod (wrap64 (a1)) ((rdOf ByteArray.empty t138 (Int.tmod (wrap64 (a0)) (t138.length : Int))).size : Int))) true) else (flaillaw17_KindsCase.j0 k t137 (rdOf ByteArray.empty t138 (Int.tmod (wrap64 (a0)) (t138.length : Int))) (Int.tmod (wrap64 (a1)) ((rdOf ByteArray.empty t138 (Int.tmod (wrap64 (a0)) (t138.length : Int))).size : Int)) (bt (rdOf ByteArray.empty t138 (Int.tmod (wrap64 (a0)) (t138.length : Int))) (Int.tmod (wrap64 (a1)) ((rdOf ByteArray.empty t138 (Int.tmod (wrap64 (a0)) (t138.length : Int))).size : Int))) (decide ((bt (rdOf ByteArray.empty t138 (Int.tmod (wrap64 (a0)) (t138.length : Int))) (Int.tmod (wrap64 (a1)) ((rdOf ByteArray.empty t138 (Int.tmod (wrap64 (a0)) (t138.length : Int))).size : Int))) > 122)))) else (none)) else (none)))) else (none)) else (none))) = some r := H
  have A4 := Aside0.mk A40
  clear A40
  by_cases c5 : (t138.length : Int) = 0
  · rw [if_pos c5] at H
    exact absurd H (by simp)
  · rw [if_neg c5] at H
    have c5b0 : ((t138.length : Int) == 0) = false := beq_eq_false_iff_ne.mpr c5
    have c5b1 : ((t138.length : Int) != 0) = true := bne_iff_ne.mpr c5
    have c5b2 : ¬ (t138 = []) := fun h_ => c5 (by rw [h_]; rfl)
    obtain ⟨ji6, hji6⟩ : ∃ j_ : Int, (Int.tmod (wrap64 (a0)) (t138.length : Int)) = j_ := ⟨_, rfl⟩
    replace H : (if 0 ≤ (ji6) then (if (ji6) < (t138.length : Int) then (if (rdOf ByteArray.empty t138 (ji6)).toList = ([] : List UInt8) then (some t137) else (if ((rdOf ByteArray.empty t138 (ji6)).size : Int) = 0 then (none) else (if 0 ≤ (Int.tmod (wrap64 (a1)) ((rdOf ByteArray.empty t138 (ji6)).size : Int)) then (if (Int.tmod (wrap64 (a1)) ((rdOf ByteArray.empty t138 (ji6)).size : Int)) < ((rdOf ByteArray.empty t138 (ji6)).size : Int) then (if (bt (rdOf ByteArray.empty t138 (ji6)) (Int.tmod (wrap64 (a1)) ((rdOf ByteArray.empty t138 (ji6)).size : Int))) < 97 then (flaillaw17_KindsCase.j0 k t137 (rdOf ByteArray.empty t138 (ji6)) (Int.tmod (wrap64 (a1)) ((rdOf ByteArray.empty t138 (ji6)).size : Int)) (bt (rdOf ByteArray.empty t138 (ji6)) (Int.tmod (wrap64 (a1)) ((rdOf ByteArray.empty t138 (ji6)).size : Int))) true) else (flaillaw17_KindsCase.j0 k t137 (rdOf ByteArray.empty t138 (ji6)) (Int.tmod (wrap64 (a1)) ((rdOf ByteArray.empty t138 (ji6)).size : Int)) (bt (rdOf ByteArray.empty t138 (ji6)) (Int.tmod (wrap64 (a1)) ((rdOf ByteArray.empty t138 (ji6)).size : Int))) (decide ((bt (rdOf ByteArray.empty t138 (ji6)) (Int.tmod (wrap64 (a1)) ((rdOf ByteArray.empty t138 (ji6)).size : Int))) > 122)))) else (none)) else (none)))) else (none)) else (none)) = some r := by first | (rw [hji6] at H; exact H) | (simp only [hji6] at H ⊢; exact H)
    (try rw [hji6] at A3)
    (try rw [hji6] at A4)
    by_cases c7 : 0 ≤ (ji6)
    · rw [if_pos c7] at H
      have c7b0 : decide (0 ≤ (ji6)) = true := decide_eq_true c7
      clear c7
      by_cases c8 : (ji6) < (t138.length : Int)
      · rw [if_pos c8] at H
        have c8b0 : decide ((ji6) < (t138.length : Int)) = true := decide_eq_true c8
        clear c8
        by_cases c9 : (rdOf ByteArray.empty t138 (ji6)).toList = ([] : List UInt8)
        · rw [if_pos c9] at H
          have c9b0 : ((rdOf ByteArray.empty t138 (ji6)).toList == ([] : List UInt8)) = true := beq_iff_eq.mpr c9
          have c9b1 : ((rdOf ByteArray.empty t138 (ji6)).toList != ([] : List UInt8)) = false := bne_eq_false_iff_eq.mpr c9
          clear c9
          obtain rfl := Option.some.inj H
          go_enter Try.func7, Try.ntmps7
          go_wp2_with (first | ((with_reducible refine gate_callee (f := 8) rfl ?_); refine goesL_ (some 11) rfl rfl Try.func8 (by kernel_rfl) rfl #[] rfl (by (try simp only [List.map_toArray, List.map_cons, List.map_nil]); first | done | rfl | (simp only [List.length_drop, List.length_take]; rfl)) ?_; (with_reducible refine (flaillaw17_awake.calls k  t137 _ A3.out).mono ?_); rintro e w10 ⟨rfl, hb⟩; refine ⟨_, rfl, ?_⟩; have n0_ := Aside0.mk (below_step (by repeat (first | (with_reducible first | exact HB.out | apply below_alloc | apply pw_below_drewN | apply below_drew1) | exact HB.out)) hb); clear HB; have HB := n0_; clear n0_; (try clear hb); (try clear hb2); (try clear hk); (try clear hi)) | ((with_reducible refine gate_callee (f := 17) rfl ?_); refine goesL_ (some 12) rfl rfl Try.func17 (by kernel_rfl) rfl #[] rfl (by (try simp only [List.map_toArray, List.map_cons, List.map_nil]); first | done | rfl | (simp only [List.length_drop, List.length_take]; rfl)) ?_; (with_reducible refine (flailref17_Names.calls  t138 _ A4.out).mono ?_); rintro e w11 ⟨v139, rfl, ho0, hb⟩; refine ⟨_, rfl, ?_⟩; have n0_ := Aside0.mk (Kd.R_lower ho0 (below_size (by repeat (first | (with_reducible first | exact HB.out | apply below_alloc | apply pw_below_drewN | apply below_drew1) | exact HB.out)))); have n1_ := Aside0.mk (below_step (by repeat (first | (with_reducible first | exact HB.out | apply below_alloc | apply pw_below_drewN | apply below_drew1) | exact HB.out)) hb); clear HB; have HO140 := n0_; have HB := n1_; clear n0_ n1_; (try clear hb); (try clear hb2); (try clear hk); (try clear hi); (try clear ho0); obtain ⟨Ao12, co12, eo12⟩ := Kd.R_slice HO140.out; subst eo12; have p141 : 0 ≤ ((ji6) : Int) := of_decide_eq_true (by first | (with_reducible assumption) | assumption); have q141 : (ji6) < (t138.length : Int) := of_decide_eq_true (by first | (with_reducible assumption) | assumption); obtain ⟨ad141, e141, hx141_0⟩ := Kd.at_string (Kd.R_reads' HO140.out).2.2 (ji6) p141 q141; cases e141; replace p141 := eq_true p141; replace q141 := eq_true q141))
          go_ret
          exact ⟨by first | rfl | (simp [errW_none, errW_some] <;> rfl) | (simp only [← hji6]; first | rfl | (simp [errW_none, errW_some] <;> rfl)) | (simp [*, errW_none, errW_some] <;> rfl), by repeat (first | (with_reducible first | exact HB.out | apply below_alloc | apply pw_below_drewN | apply below_drew1) | exact HB.out)⟩
        · rw [if_neg c9] at H
          have c9b0 : ((rdOf ByteArray.empty t138 (ji6)).toList == ([] : List UInt8)) = false := beq_eq_false_iff_ne.mpr c9
          have c9b1 : ((rdOf ByteArray.empty t138 (ji6)).toList != ([] : List UInt8)) = true := bne_iff_ne.mpr c9
          by_cases c13 : ((rdOf ByteArray.empty t138 (ji6)).size : Int) = 0
          · rw [if_pos c13] at H
            exact absurd H (by simp)
          · rw [if_neg c13] at H
            have c13b0 : (((rdOf ByteArray.empty t138 (ji6)).size : Int) == 0) = false := beq_eq_false_iff_ne.mpr c13
            have c13b1 : (((rdOf ByteArray.empty t138 (ji6)).size : Int) != 0) = true := bne_iff_ne.mpr c13
            obtain ⟨ji14, hji14⟩ : ∃ j_ : Int, (Int.tmod (wrap64 (a1)) ((rdOf ByteArray.empty t138 (ji6)).size : Int)) = j_ := ⟨_, rfl⟩
            replace H : (if 0 ≤ (ji14) then (if (ji14) < ((rdOf ByteArray.empty t138 (ji6)).size : Int) then (if (bt (rdOf ByteArray.empty t138 (ji6)) (ji14)) < 97 then (flaillaw17_KindsCase.j0 k t137 (rdOf ByteArray.empty t138 (ji6)) ji14 (bt (rdOf ByteArray.empty t138 (ji6)) (ji14)) true) else (flaillaw17_KindsCase.j0 k t137 (rdOf ByteArray.empty t138 (ji6)) ji14 (bt (rdOf ByteArray.empty t138 (ji6)) (ji14)) (decide ((bt (rdOf ByteArray.empty t138 (ji6)) (ji14)) > 122)))) else (none)) else (none)) = some r := by first | (rw [hji14] at H; exact H) | (simp only [hji14] at H ⊢; exact H)
            (try rw [hji14] at A3)
            (try rw [hji14] at A4)
            by_cases c15 : 0 ≤ (ji14)
            · rw [if_pos c15] at H
              have c15b0 : decide (0 ≤ (ji14)) = true := decide_eq_true c15
              clear c15
              by_cases c16 : (ji14) < ((rdOf ByteArray.empty t138 (ji6)).size : Int)
              · rw [if_pos c16] at H
                have c16b0 : decide ((ji14) < ((rdOf ByteArray.empty t138 (ji6)).size : Int)) = true := decide_eq_true c16
                clear c16
                have HC18 := Aside0.mk H
                clear H
                go_enter Try.func7, Try.ntmps7
                go_upto_region 8 with (first | ((with_reducible refine gate_callee (f := 8) rfl ?_); refine goesL_ (some 11) rfl rfl Try.func8 (by kernel_rfl) rfl #[] rfl (by (try simp only [List.map_toArray, List.map_cons, List.map_nil]); first | done | rfl | (simp only [List.length_drop, List.length_take]; rfl)) ?_; (with_reducible refine (flaillaw17_awake.calls k  t137 _ A3.out).mono ?_); rintro e w19 ⟨rfl, hb⟩; refine ⟨_, rfl, ?_⟩; have n0_ := Aside0.mk (below_step (by repeat (first | (with_reducible first | exact HB.out | apply below_alloc | apply pw_below_drewN | apply below_drew1) | exact HB.out)) hb); clear HB; have HB := n0_; clear n0_; (try clear hb); (try clear hb2); (try clear hk); (try clear hi)) | ((with_reducible refine gate_callee (f := 17) rfl ?_); refine goesL_ (some 12) rfl rfl Try.func17 (by kernel_rfl) rfl #[] rfl (by (try simp only [List.map_toArray, List.map_cons, List.map_nil]); first | done | rfl | (simp only [List.length_drop, List.length_take]; rfl)) ?_; (with_reducible refine (flailref17_Names.calls  t138 _ A4.out).mono ?_); rintro e w20 ⟨v139, rfl, ho0, hb⟩; refine ⟨_, rfl, ?_⟩; have n0_ := Aside0.mk (Kd.R_lower ho0 (below_size (by repeat (first | (with_reducible first | exact HB.out | apply below_alloc | apply pw_below_drewN | apply below_drew1) | exact HB.out)))); have n1_ := Aside0.mk (below_step (by repeat (first | (with_reducible first | exact HB.out | apply below_alloc | apply pw_below_drewN | apply below_drew1) | exact HB.out)) hb); clear HB; have HO140 := n0_; have HB := n1_; clear n0_ n1_; (try clear hb); (try clear hb2); (try clear hk); (try clear hi); (try clear ho0); obtain ⟨Ao21, co21, eo21⟩ := Kd.R_slice HO140.out; subst eo21; have p141 : 0 ≤ ((ji6) : Int) := of_decide_eq_true (by first | (with_reducible assumption) | assumption); have q141 : (ji6) < (t138.length : Int) := of_decide_eq_true (by first | (with_reducible assumption) | assumption); obtain ⟨ad141, e141, hx141_0⟩ := Kd.at_string (Kd.R_reads' HO140.out).2.2 (ji6) p141 q141; cases e141; replace p141 := eq_true p141; replace q141 := eq_true q141; have p17 : 0 ≤ ((ji14) : Int) := of_decide_eq_true (by first | (with_reducible assumption) | assumption); have q17 : (ji14) < ((rdOf ByteArray.empty t138 (ji6)).size : Int) := of_decide_eq_true (by first | (with_reducible assumption) | assumption); have hx17 := bt_at (rdOf ByteArray.empty t138 (ji6)) (ji14); replace p17 := eq_true p17; replace q17 := eq_true q17))
                (try simp only [Act.put, List.setIfInBounds_toArray, List.set_cons_zero, List.set_cons_succ])
                go_cut [37] (fun v37 wc => ∃ (kq : Nat) (x37_17 : Bool), v37 = .bool x37_17 ∧ Aside0 (flaillaw17_KindsCase.j0 kq t137 (rdOf ByteArray.empty t138 (ji6)) ji14 (bt (rdOf ByteArray.empty t138 (ji6)) (ji14)) x37_17 = some r) ∧ Aside0 (kq ≤ k) ∧ Aside0 (Below w.heap.size w wc))
                case first =>
                  have H := HC18.out
                  clear HC18
                  by_cases c22 : (bt (rdOf ByteArray.empty t138 (ji6)) (ji14)) < 97
                  · rw [if_pos c22] at H
                    have c22b0 : decide ((bt (rdOf ByteArray.empty t138 (ji6)) (ji14)) < 97) = true := decide_eq_true c22
                    clear c22
                    (first | rw [c22b0] | (simp only [i64_w, i32_w]; rw [c22b0]) | skip)
                    have H' := Aside0.mk H
                    clear H
                    go_wp2
                    go_meet
                    case rel => exact ⟨_, (true), (by first | rfl | (simp; done) | (simp [*]; done)), H', ⟨by first | omega | exact Nat.le_refl _⟩, ⟨by repeat (first | (with_reducible first | exact HB.out | apply below_alloc | apply pw_below_drewN | apply below_drew1) | exact HB.out)⟩⟩
                  · rw [if_neg c22] at H
                    have c22b0 : decide ((bt (rdOf ByteArray.empty t138 (ji6)) (ji14)) < 97) = false := decide_eq_false c22
                    clear c22
                    (first | rw [c22b0] | (simp only [i64_w, i32_w]; rw [c22b0]) | skip)
                    have H' := Aside0.mk H
                    clear H
                    go_wp2
                    go_meet
                    case rel => exact ⟨_, (decide ((bt (rdOf ByteArray.empty t138 (ji6)) (ji14)) > 122)), (by first | rfl | (simp; done) | (simp only [← hji6, ← hji14] <;> (first | rfl | simp)) | (simp [*]; done)), H', ⟨by first | omega | exact Nat.le_refl _⟩, ⟨by repeat (first | (with_reducible first | exact HB.out | apply below_alloc | apply pw_below_drewN | apply below_drew1) | exact HB.out)⟩⟩
                case rest =>
                  clear HC18
                  try clear c1
                  try clear p1
                  try clear q1
                  try clear hx1
                  try clear c2
                  try clear p2
                  try clear c5
                  try clear c5b0
                  try clear c5b1
                  try clear c5b2
                  try clear p6
                  try clear c7
                  try clear c7b0
                  try clear c8
                  try clear c8b0
                  try clear c9
                  try clear c9b0
                  try clear c9b1
                  try clear c13
                  try clear c13b0
                  try clear c13b1
                  try clear p14
                  try clear q14
                  try clear hx14
                  try clear c15
                  try clear c15b0
                  try clear c16
                  try clear c16b0
                  try clear c17
                  try clear p17
                  try clear q17
                  try clear hx17
                  try clear c22
                  try clear c22b0
                  try clear hx141_0
                  try clear p141
                  try clear p17
                  try clear q141
                  try clear q17
                  obtain ⟨kq, x37_17, rfl, HA, HJ17, HB⟩ := hcut
                  cases kq with
                  | zero => exact absurd HA.out (by simp [flaillaw17_KindsCase.j0])
                  | succ kj17 =>
                    have H := HA.out
                    clear HA
                    simp only [flaillaw17_KindsCase.j0] at H
                    by_cases c23 : x37_17 = true
                    · subst c23
                      have H1 : (some t137) = some r := by rw [if_pos rfl] at H; exact H
                      clear H
                      have H := H1
                      clear H1
                      obtain rfl := Option.some.inj H
                      go_wp2
                      go_ret
                      exact ⟨by first | rfl | (simp [errW_none, errW_some] <;> rfl) | (simp only [← hji6, ← hji14]; first | rfl | (simp [errW_none, errW_some] <;> rfl)) | (simp [*, errW_none, errW_some] <;> rfl), by repeat (first | (with_reducible first | exact HB.out | apply below_alloc | apply pw_below_drewN | apply below_drew1) | exact HB.out)⟩
                    · replace c23 := Bool.eq_false_iff.mpr c23
                      subst c23
                      have H1 : (if 0 ≤ ji14 then (if ji14 ≤ ((rdOf ByteArray.empty t138 (ji6)).size : Int) then ((some (([((bt (rdOf ByteArray.empty t138 (ji6)) (ji14)) - 32) % 256] : List Int) : List Int)).bind fun y142 => (if ((rdOf ByteArray.empty t138 (ji6)).extract 0 (ji14 : Int).toNat).size + (strOfNums y142).size ≤ 9223372036854775807 then (if 0 ≤ (wrap64 (ji14 + 1)) then (if (wrap64 (ji14 + 1)) ≤ ((rdOf ByteArray.empty t138 (ji6)).size : Int) then (if (((rdOf ByteArray.empty t138 (ji6)).extract 0 (ji14 : Int).toNat) ++ (strOfNums y142)).size + ((rdOf ByteArray.empty t138 (ji6)).extract ((wrap64 (ji14 + 1)) : Int).toNat (rdOf ByteArray.empty t138 (ji6)).size).size ≤ 9223372036854775807 then (if t137 = true then ((kinds_Hides.f kj17 ((((rdOf ByteArray.empty t138 (ji6)).extract 0 (ji14 : Int).toNat) ++ (strOfNums y142)) ++ ((rdOf ByteArray.empty t138 (ji6)).extract ((wrap64 (ji14 + 1)) : Int).toNat (rdOf ByteArray.empty t138 (ji6)).size))).bind fun t145 => (if t145 = true then (some false) else ((kinds_Keeps.f kj17 ((((rdOf ByteArray.empty t138 (ji6)).extract 0 (ji14 : Int).toNat) ++ (strOfNums y142)) ++ ((rdOf ByteArray.empty t138 (ji6)).extract ((wrap64 (ji14 + 1)) : Int).toNat (rdOf ByteArray.empty t138 (ji6)).size))).bind fun t146 => (if t146 = true then (some false) else ((kinds_Void.f kj17 ((((rdOf ByteArray.empty t138 (ji6)).extract 0 (ji14 : Int).toNat) ++ (strOfNums y142)) ++ ((rdOf ByteArray.empty t138 (ji6)).extract ((wrap64 (ji14 + 1)) : Int).toNat (rdOf ByteArray.empty t138 (ji6)).size))).bind fun t147 => (if t147 = true then (some false) else ((kinds_Lines.f kj17 ((((rdOf ByteArray.empty t138 (ji6)).extract 0 (ji14 : Int).toNat) ++ (strOfNums y142)) ++ ((rdOf ByteArray.empty t138 (ji6)).extract ((wrap64 (ji14 + 1)) : Int).toNat (rdOf ByteArray.empty t138 (ji6)).size))).bind fun t148 => (some (t148 == 0))))))))) else (some false)) else (none)) else (none)) else (none)) else (none))) else (none)) else (none)) = some r := by rw [if_neg (show ¬ (false = true) by decide)] at H; exact H
                      clear H
                      have H := H1
                      clear H1
                      by_cases c24 : 0 ≤ ji14
                      · rw [if_pos c24] at H
                        have c24b0 := eq_true c24
                        have c24b1 : decide (0 ≤ ji14) = true := decide_eq_true c24
                        clear c24
                        by_cases c25 : ji14 ≤ ((rdOf ByteArray.empty t138 (ji6)).size : Int)
                        · rw [if_pos c25] at H
                          have c25b0 := eq_true c25
                          have c25b1 : decide (ji14 ≤ ((rdOf ByteArray.empty t138 (ji6)).size : Int)) = true := decide_eq_true c25
                          clear c25
                          obtain ⟨y142, hy142⟩ : ∃ y_ : List Int, y_ = (([((bt (rdOf ByteArray.empty t138 (ji6)) (ji14)) - 32) % 256] : List Int)) := ⟨_, rfl⟩
                          replace H : (if ((rdOf ByteArray.empty t138 (ji6)).extract 0 (ji14 : Int).toNat).size + (strOfNums y142).size ≤ 9223372036854775807 then (if 0 ≤ (wrap64 (ji14 + 1)) then (if (wrap64 (ji14 + 1)) ≤ ((rdOf ByteArray.empty t138 (ji6)).size : Int) then (if (((rdOf ByteArray.empty t138 (ji6)).extract 0 (ji14 : Int).toNat) ++ (strOfNums y142)).size + ((rdOf ByteArray.empty t138 (ji6)).extract ((wrap64 (ji14 + 1)) : Int).toNat (rdOf ByteArray.empty t138 (ji6)).size).size ≤ 9223372036854775807 then (if t137 = true then ((kinds_Hides.f kj17 ((((rdOf ByteArray.empty t138 (ji6)).extract 0 (ji14 : Int).toNat) ++ (strOfNums y142)) ++ ((rdOf ByteArray.empty t138 (ji6)).extract ((wrap64 (ji14 + 1)) : Int).toNat (rdOf ByteArray.empty t138 (ji6)).size))).bind fun t145 => (if t145 = true then (some false) else ((kinds_Keeps.f kj17 ((((rdOf ByteArray.empty t138 (ji6)).extract 0 (ji14 : Int).toNat) ++ (strOfNums y142)) ++ ((rdOf ByteArray.empty t138 (ji6)).extract ((wrap64 (ji14 + 1)) : Int).toNat (rdOf ByteArray.empty t138 (ji6)).size))).bind fun t146 => (if t146 = true then (some false) else ((kinds_Void.f kj17 ((((rdOf ByteArray.empty t138 (ji6)).extract 0 (ji14 : Int).toNat) ++ (strOfNums y142)) ++ ((rdOf ByteArray.empty t138 (ji6)).extract ((wrap64 (ji14 + 1)) : Int).toNat (rdOf ByteArray.empty t138 (ji6)).size))).bind fun t147 => (if t147 = true then (some false) else ((kinds_Lines.f kj17 ((((rdOf ByteArray.empty t138 (ji6)).extract 0 (ji14 : Int).toNat) ++ (strOfNums y142)) ++ ((rdOf ByteArray.empty t138 (ji6)).extract ((wrap64 (ji14 + 1)) : Int).toNat (rdOf ByteArray.empty t138 (ji6)).size))).bind fun t148 => (some (t148 == 0))))))))) else (some false)) else (none)) else (none)) else (none)) else (none)) = some r := by first | (rw [hy142]; with_reducible exact H) | (have H2_ := (Option.bind_some _ _).symm.trans H; rw [hy142]; with_reducible exact H2_) | (have H2_ := (Option.bind_some _ _).symm.trans H; with_reducible exact H2_) | with_reducible exact H | (rw [hy142]; exact H) | exact H
                          have Ny142 := Aside0.mk hy142
                          clear hy142
                          by_cases c26 : ((rdOf ByteArray.empty t138 (ji6)).extract 0 (ji14 : Int).toNat).size + (strOfNums y142).size ≤ 9223372036854775807
                          · rw [if_pos c26] at H
                            have c26b0 := eq_true c26
                            have c26b1 : decide (((rdOf ByteArray.empty t138 (ji6)).extract 0 (ji14 : Int).toNat).size + (strOfNums y142).size ≤ 9223372036854775807) = true := decide_eq_true c26
                            try have c26b2 : (9223372036854775807 < ((rdOf ByteArray.empty t138 (ji6)).extract 0 (ji14 : Int).toNat).size + (strOfNums y142).size) = False := eq_false (Nat.not_lt.2 c26)
                            have zz1 : (9223372036854775807 < ji14.toNat + (strOfNums y142).size) = False := eq_false (by have h1_ := c26; rw [ByteArray.size_extract] at h1_; have h2_ := of_eq_true c25b0; have h3_ := of_eq_true c24b0; omega)
                            obtain ⟨ji27, hji27⟩ : ∃ j_ : Int, (wrap64 (ji14 + 1)) = j_ := ⟨_, rfl⟩
                            replace H : (if 0 ≤ (ji27) then (if (ji27) ≤ ((rdOf ByteArray.empty t138 (ji6)).size : Int) then (if (((rdOf ByteArray.empty t138 (ji6)).extract 0 (ji14 : Int).toNat) ++ (strOfNums y142)).size + ((rdOf ByteArray.empty t138 (ji6)).extract ((ji27) : Int).toNat (rdOf ByteArray.empty t138 (ji6)).size).size ≤ 9223372036854775807 then (if t137 = true then ((kinds_Hides.f kj17 ((((rdOf ByteArray.empty t138 (ji6)).extract 0 (ji14 : Int).toNat) ++ (strOfNums y142)) ++ ((rdOf ByteArray.empty t138 (ji6)).extract ((ji27) : Int).toNat (rdOf ByteArray.empty t138 (ji6)).size))).bind fun t145 => (if t145 = true then (some false) else ((kinds_Keeps.f kj17 ((((rdOf ByteArray.empty t138 (ji6)).extract 0 (ji14 : Int).toNat) ++ (strOfNums y142)) ++ ((rdOf ByteArray.empty t138 (ji6)).extract ((ji27) : Int).toNat (rdOf ByteArray.empty t138 (ji6)).size))).bind fun t146 => (if t146 = true then (some false) else ((kinds_Void.f kj17 ((((rdOf ByteArray.empty t138 (ji6)).extract 0 (ji14 : Int).toNat) ++ (strOfNums y142)) ++ ((rdOf ByteArray.empty t138 (ji6)).extract ((ji27) : Int).toNat (rdOf ByteArray.empty t138 (ji6)).size))).bind fun t147 => (if t147 = true then (some false) else ((kinds_Lines.f kj17 ((((rdOf ByteArray.empty t138 (ji6)).extract 0 (ji14 : Int).toNat) ++ (strOfNums y142)) ++ ((rdOf ByteArray.empty t138 (ji6)).extract ((ji27) : Int).toNat (rdOf ByteArray.empty t138 (ji6)).size))).bind fun t148 => (some (t148 == 0))))))))) else (some false)) else (none)) else (none)) else (none)) = some r := by first | (rw [hji27] at H; exact H) | (simp only [hji27] at H ⊢; exact H)
                            have hji27w : (IntKind.i64.wrap (ji14 + 1)) = ji27 := (i64_w _).trans hji27
                            by_cases c28 : 0 ≤ (ji27)
                            · rw [if_pos c28] at H
                              have c28b0 := eq_true c28
                              have c28b1 : decide (0 ≤ (ji27)) = true := decide_eq_true c28
                              clear c28
                              by_cases c29 : (ji27) ≤ ((rdOf ByteArray.empty t138 (ji6)).size : Int)
                              · rw [if_pos c29] at H
                                have c29b0 := eq_true c29
                                have c29b1 : decide ((ji27) ≤ ((rdOf ByteArray.empty t138 (ji6)).size : Int)) = true := decide_eq_true c29
                                clear c29
                                by_cases c30 : (((rdOf ByteArray.empty t138 (ji6)).extract 0 (ji14 : Int).toNat) ++ (strOfNums y142)).size + ((rdOf ByteArray.empty t138 (ji6)).extract ((ji27) : Int).toNat (rdOf ByteArray.empty t138 (ji6)).size).size ≤ 9223372036854775807
                                · rw [if_pos c30] at H
                                  have c30b0 := eq_true c30
                                  have c30b1 : decide ((((rdOf ByteArray.empty t138 (ji6)).extract 0 (ji14 : Int).toNat) ++ (strOfNums y142)).size + ((rdOf ByteArray.empty t138 (ji6)).extract ((ji27) : Int).toNat (rdOf ByteArray.empty t138 (ji6)).size).size ≤ 9223372036854775807) = true := decide_eq_true c30
                                  try have c30b2 : (9223372036854775807 < (((rdOf ByteArray.empty t138 (ji6)).extract 0 (ji14 : Int).toNat) ++ (strOfNums y142)).size + ((rdOf ByteArray.empty t138 (ji6)).extract ((ji27) : Int).toNat (rdOf ByteArray.empty t138 (ji6)).size).size) = False := eq_false (Nat.not_lt.2 c30)
                                  have zz2 : (9223372036854775807 < ji14.toNat + (strOfNums y142).size + ((rdOf ByteArray.empty t138 (ji6)).size - ji27.toNat)) = False := eq_false (by have h1_ := c30; rw [ByteArray.size_append, ByteArray.size_extract, ByteArray.size_extract] at h1_; have h2_ := of_eq_true c25b0; have h3_ := of_eq_true c24b0; omega)
                                  by_cases c31 : t137 = true
                                  · subst c31
                                    have H1 : ((kinds_Hides.f kj17 ((((rdOf ByteArray.empty t138 (ji6)).extract 0 (ji14 : Int).toNat) ++ (strOfNums y142)) ++ ((rdOf ByteArray.empty t138 (ji6)).extract ((ji27) : Int).toNat (rdOf ByteArray.empty t138 (ji6)).size))).bind fun t145 => (if t145 = true then (some false) else ((kinds_Keeps.f kj17 ((((rdOf ByteArray.empty t138 (ji6)).extract 0 (ji14 : Int).toNat) ++ (strOfNums y142)) ++ ((rdOf ByteArray.empty t138 (ji6)).extract ((ji27) : Int).toNat (rdOf ByteArray.empty t138 (ji6)).size))).bind fun t146 => (if t146 = true then (some false) else ((kinds_Void.f kj17 ((((rdOf ByteArray.empty t138 (ji6)).extract 0 (ji14 : Int).toNat) ++ (strOfNums y142)) ++ ((rdOf ByteArray.empty t138 (ji6)).extract ((ji27) : Int).toNat (rdOf ByteArray.empty t138 (ji6)).size))).bind fun t147 => (if t147 = true then (some false) else ((kinds_Lines.f kj17 ((((rdOf ByteArray.empty t138 (ji6)).extract 0 (ji14 : Int).toNat) ++ (strOfNums y142)) ++ ((rdOf ByteArray.empty t138 (ji6)).extract ((ji27) : Int).toNat (rdOf ByteArray.empty t138 (ji6)).size))).bind fun t148 => (some (t148 == 0))))))))) = some r := by rw [if_pos rfl] at H; exact H
                                    clear H
                                    have H := H1
                                    clear H1
                                    replace H := Option.bind_eq_some_iff.mp H
                                    obtain ⟨t145, A320, H⟩ := H
                                    replace H : (if t145 = true then (some false) else ((kinds_Keeps.f kj17 ((((rdOf ByteArray.empty t138 (ji6)).extract 0 (ji14 : Int).toNat) ++ (strOfNums y142)) ++ ((rdOf ByteArray.empty t138 (ji6)).extract ((ji27) : Int).toNat (rdOf ByteArray.empty t138 (ji6)).size))).bind fun t146 => (if t146 = true then (some false) else ((kinds_Void.f kj17 ((((rdOf ByteArray.empty t138 (ji6)).extract 0 (ji14 : Int).toNat) ++ (strOfNums y142)) ++ ((rdOf ByteArray.empty t138 (ji6)).extract ((ji27) : Int).toNat (rdOf ByteArray.empty t138 (ji6)).size))).bind fun t147 => (if t147 = true then (some false) else ((kinds_Lines.f kj17 ((((rdOf ByteArray.empty t138 (ji6)).extract 0 (ji14 : Int).toNat) ++ (strOfNums y142)) ++ ((rdOf ByteArray.empty t138 (ji6)).extract ((ji27) : Int).toNat (rdOf ByteArray.empty t138 (ji6)).size))).bind fun t148 => (some (t148 == 0)))))))) = some r := H
                                    have A32 := Aside0.mk A320
                                    clear A320
                                    by_cases c33 : t145 = true
                                    · subst c33
                                      have H1 : (some false) = some r := by rw [if_pos rfl] at H; exact H
                                      clear H
                                      have H := H1
                                      clear H1
                                      obtain rfl := Option.some.inj H
                                      try go_wp2
                                      have n0_ := Aside0.mk (below_drew1 HB.out)
                                      clear HB
                                      have HB := n0_
                                      clear n0_
                                      refine start_ (n := 14) (S := fun w' => True) (ds := []) #[false, false, false, false, false, false, false, false, false, false, false, false, false, false] (by kernel_rfl) rfl rfl trivial (fun hHeld => ?_); refine with_tabW flaillaw17_KindsCase.tab10 flaillaw17_KindsCase.bits10 (fun HT_ HW_ => ?_)
                                      generalize wc.drew = w34 at HB hHeld ⊢
                                      refine pure_ (i := 0) (N := some 39) (v := ?_) (a' := ?_) #[true, false, false, false, false, false, false, false, false, false, false, false, false, false] rfl rfl (any_of HT_.out (by kernel_rfl)) (fun _ _ _ h => h) (Or.inl ⟨by rfl, ?_⟩) ?_ ?_
                                      rotate_left
                                      · intro w'
                                        go_simp
                                        with_reducible rfl
                                      rotate_left
                                      · simp only [Act.put, List.setIfInBounds_toArray, List.set_cons_zero, List.set_cons_succ, i64_w, i32_w]
                                        rfl
                                      refine pure_ (i := 1) (N := some 40) (v := ?_) (a' := ?_) #[true, true, false, false, false, false, false, false, false, false, false, false, false, false] rfl rfl (any_of HT_.out (by kernel_rfl)) (fun _ _ _ h => h) (Or.inl ⟨by rfl, ?_⟩) ?_ ?_
                                      rotate_left
                                      · intro w'
                                        go_simp
                                        with_reducible rfl
                                      rotate_left
                                      · simp only [Act.put, List.setIfInBounds_toArray, List.set_cons_zero, List.set_cons_succ, i64_w, i32_w]
                                        rfl
                                      refine pure_ (i := 2) (N := some 41) (v := ?_) (a' := ?_) #[true, true, true, false, false, false, false, false, false, false, false, false, false, false] rfl rfl (any_of HT_.out (by kernel_rfl)) (fun _ _ _ h => h) (Or.inl ⟨by rfl, ?_⟩) ?_ ?_
                                      rotate_left
                                      · intro w'
                                        go_simp
                                        with_reducible rfl
                                      rotate_left
                                      · simp only [Act.put, List.setIfInBounds_toArray, List.set_cons_zero, List.set_cons_succ, i64_w, i32_w]
                                        rfl
                                      refine pure_ (i := 3) (N := some 42) (v := ?_) (a' := ?_) #[true, true, true, true, false, false, false, false, false, false, false, false, false, false] rfl rfl (any_of HT_.out (by kernel_rfl)) (fun _ _ _ h => h) (Or.inl ⟨by rfl, ?_⟩) ?_ ?_
                                      rotate_left
                                      · intro w'
                                        go_simp
                                        with_reducible rfl
                                      rotate_left
                                      · simp only [Act.put, List.setIfInBounds_toArray, List.set_cons_zero, List.set_cons_succ, i64_w, i32_w]
                                        rfl
                                      refine pure_ (i := 4) (N := some 43) (v := ?_) (a' := ?_) #[true, true, true, true, true, false, false, false, false, false, false, false, false, false] rfl rfl (any_of HT_.out (by kernel_rfl)) (fun _ _ _ h => h) (Or.inl ⟨by rfl, ?_⟩) ?_ ?_
                                      rotate_left
                                      · intro w'
                                        go_simp
                                        with_reducible rfl
                                      rotate_left
                                      · simp only [Act.put, List.setIfInBounds_toArray, List.set_cons_zero, List.set_cons_succ, i64_w, i32_w]
                                        rfl
                                      refine pure_ (i := 8) (N := some 47) (v := ?_) (a' := ?_) #[true, true, true, true, true, false, false, false, true, false, false, false, false, false] rfl rfl (any_of HT_.out (by kernel_rfl)) (fun _ _ _ h => h) (Or.inl ⟨by rfl, ?_⟩) ?_ ?_
                                      rotate_left
                                      · intro w'
                                        go_simp
                                        with_reducible rfl
                                      rotate_left
                                      · simp only [Act.put, List.setIfInBounds_toArray, List.set_cons_zero, List.set_cons_succ, i64_w, i32_w]
                                        rfl
                                      refine pure_ (i := 9) (N := some 48) (v := ?_) (a' := ?_) #[true, true, true, true, true, false, false, false, true, true, false, false, false, false] rfl rfl (any_of HT_.out (by kernel_rfl)) (fun _ _ _ h => h) (Or.inl ⟨by rfl, ?_⟩) ?_ ?_
                                      rotate_left
                                      · intro w'
                                        go_simp
                                        with_reducible rfl
                                      rotate_left
                                      · simp only [Act.put, List.setIfInBounds_toArray, List.set_cons_zero, List.set_cons_succ, i64_w, i32_w]
                                        rfl
                                      refine pure_ (i := 10) (N := some 49) (v := ?_) (a' := ?_) #[true, true, true, true, true, false, false, false, true, true, true, false, false, false] rfl rfl (any_of HT_.out (by kernel_rfl)) (fun _ _ _ h => h) (Or.inl ⟨by rfl, ?_⟩) ?_ ?_
                                      rotate_left
                                      · intro w'
                                        go_simp
                                        with_reducible rfl
                                      rotate_left
                                      · simp only [Act.put, List.setIfInBounds_toArray, List.set_cons_zero, List.set_cons_succ, i64_w, i32_w]
                                        rfl
                                      refine pure_ (i := 11) (N := some 50) (v := ?_) (a' := ?_) #[true, true, true, true, true, false, false, false, true, true, true, true, false, false] rfl rfl (any_of HT_.out (by kernel_rfl)) (fun _ _ _ h => h) (Or.inl ⟨by rfl, ?_⟩) ?_ ?_
                                      rotate_left
                                      · intro w'
                                        go_simp
                                        with_reducible rfl
                                      rotate_left
                                      · simp only [Act.put, List.setIfInBounds_toArray, List.set_cons_zero, List.set_cons_succ, i64_w, i32_w]
                                        rfl
                                      refine one_ (i := 5) (N := some 44) #[true, true, true, true, true, true, false, false, true, true, true, true, false, false] rfl rfl (one_of HT_.out (by kernel_rfl)) (by decide) (fun K hK => ?_)
                                      refine Kd.R_lit_step (Kd.int .u8) _ 5 ?hg (N := 44) ?hd (xs := ([((bt (rdOf ByteArray.empty t138 (ji6)) (ji14)) - 32) % 256] : List Int)) (inner := [.int .u8 (((bt (rdOf ByteArray.empty t138 (ji6)) (ji14)) - 32) % 256)]) (ok := fun _ => True) (okp := fun _ => True) ?hr ?hp (fun _ hk => hk) trivial (Below.refl _ _) (Nat.le_refl _) (by simp) ?_; (case hd => rfl); (case hg => rfl); (case hr => first | (go_simp; done) | (go_simp; rfl)); (case hp => exact (Reps.one (show Kd.M (Kd.int .u8) _ _ _ (((bt (rdOf ByteArray.empty t138 (ji6)) (ji14)) - 32) % 256) [.int .u8 (((bt (rdOf ByteArray.empty t138 (ji6)) (ji14)) - 32) % 256)] from rfl) (Reps.none _ _)))
                                      intro v143 w35 ho36 hb hg_ hnew_
                                      clear hg_ hnew_
                                      (first | rw [← Ny142.out] at ho36 | (simp only [Int.reduceToNat] at ho36; rw [← Ny142.out] at ho36))
                                      have n0_ := Aside0.mk (Kd.R_lower ho36 (below_size (by repeat (first | (with_reducible first | exact HB.out | apply below_alloc | apply pw_below_drewN | apply below_drew1) | exact HB.out))))
                                      have n1_ := Aside0.mk (below_step (by repeat (first | (with_reducible first | exact HB.out | apply below_alloc | apply pw_below_drewN | apply below_drew1) | exact HB.out)) hb)
                                      clear HB
                                      have HO144 := n0_
                                      have HB := n1_
                                      clear n0_ n1_
                                      clear hb ho36
                                      refine hK.out _ _ trivial (fun hHeld => ?_)
                                      clear hK K
                                      refine norm_ (a' := ?_) ?_ ?_
                                      rotate_left
                                      · show Act.put _ (some 44) _ = _
                                        simp only [Act.put, List.setIfInBounds_toArray, List.set_cons_zero, List.set_cons_succ, i64_w, i32_w]
                                        rfl
                                      refine one_ (i := 6) (N := some 45) #[true, true, true, true, true, true, true, false, true, true, true, true, false, false] rfl rfl (one_of HT_.out (by kernel_rfl)) (by decide) (fun K hK => ?_)
                                      have hcv37 := own_string (P := Try.prog) Try.underlying30 Try.underlying5 Try.underlying9 (Kd.own_of_R HO144.out)
                                      refine value_ (w1 := ?_) (v := ?_) (by rfl) rfl ?_ ?_
                                      rotate_left 2
                                      · go_simp
                                        constructor
                                        · rfl
                                        · rfl
                                      clear hcv37
                                      refine hK.out _ _ trivial (fun hHeld => ?_)
                                      clear hK K
                                      refine norm_ (a' := ?_) ?_ ?_
                                      rotate_left
                                      · show Act.put _ (some 45) _ = _
                                        simp only [Act.put, List.setIfInBounds_toArray, List.set_cons_zero, List.set_cons_succ, i64_w, i32_w]
                                        rfl
                                      refine pure_ (i := 7) (N := some 46) (v := ?_) (a' := ?_) #[true, true, true, true, true, true, true, true, true, true, true, true, false, false] rfl rfl (any_of HT_.out (by kernel_rfl)) (fun _ _ _ h => h) (Or.inl ⟨by rfl, ?_⟩) ?_ ?_
                                      rotate_left
                                      · intro w'
                                        go_simp
                                        with_reducible rfl
                                      rotate_left
                                      · simp only [Act.put, List.setIfInBounds_toArray, List.set_cons_zero, List.set_cons_succ, i64_w, i32_w]
                                        rfl
                                      refine pure_ (i := 12) (N := some 51) (v := ?_) (a' := ?_) #[true, true, true, true, true, true, true, true, true, true, true, true, true, false] rfl rfl (any_of HT_.out (by kernel_rfl)) (fun _ _ _ h => h) (Or.inl ⟨by rfl, ?_⟩) ?_ ?_
                                      rotate_left
                                      · intro w'
                                        go_simp
                                        with_reducible rfl
                                      rotate_left
                                      · simp only [Act.put, List.setIfInBounds_toArray, List.set_cons_zero, List.set_cons_succ, i64_w, i32_w]
                                        rfl
                                      refine pure_ (i := 13) (N := some 10) (v := ?_) (a' := ?_) #[true, true, true, true, true, true, true, true, true, true, true, true, true, true] rfl rfl (any_of HT_.out (by kernel_rfl)) (fun _ _ _ h => h) (Or.inl ⟨by rfl, ?_⟩) ?_ ?_
                                      rotate_left
                                      · intro w'
                                        go_simp
                                        with_reducible rfl
                                      rotate_left
                                      · simp only [Act.put, List.setIfInBounds_toArray, List.set_cons_zero, List.set_cons_succ, i64_w, i32_w]
                                        rfl
                                      refine done_ (done_of HT_.out (by kernel_rfl)) ?_
                                      try go_wp2_with (first | (go_at_call 9; (with_reducible refine (kinds_Hides.calls kj17 ((((rdOf ByteArray.empty t138 (ji6)).extract 0 (ji14 : Int).toNat) ++ (strOfNums y142)) ++ ((rdOf ByteArray.empty t138 (ji6)).extract ((ji27) : Int).toNat (rdOf ByteArray.empty t138 (ji6)).size)) true _ A32.out).mono ?_); rintro e w38 ⟨rfl, hb⟩; have n0_ := Aside0.mk (Kd.R_below (by (with_reducible repeat (first | apply Kd.R_alloc | apply Kd.R_drewN | apply Kd.R_drew)); exact HO144.out) hb); have n1_ := Aside0.mk (below_step (by repeat (first | (with_reducible first | exact HB.out | apply below_alloc | apply pw_below_drewN | apply below_drew1) | exact HB.out)) hb); clear HO144; clear HB; have HO144 := n0_; have HB := n1_; clear n0_ n1_; (try clear hb); (try clear hb2); (try clear hk); (try clear hi)))
                                      go_ret
                                      exact ⟨by first | rfl | (simp [errW_none, errW_some] <;> rfl) | (simp only [← hji6, ← hji14, ← hji27]; first | rfl | (simp [errW_none, errW_some] <;> rfl)) | (simp [*, errW_none, errW_some] <;> rfl), by repeat (first | (with_reducible first | exact HB.out | apply below_alloc | apply pw_below_drewN | apply below_drew1) | exact HB.out)⟩
                                    · replace c33 := Bool.eq_false_iff.mpr c33
                                      subst c33
                                      have H1 : ((kinds_Keeps.f kj17 ((((rdOf ByteArray.empty t138 (ji6)).extract 0 (ji14 : Int).toNat) ++ (strOfNums y142)) ++ ((rdOf ByteArray.empty t138 (ji6)).extract ((ji27) : Int).toNat (rdOf ByteArray.empty t138 (ji6)).size))).bind fun t146 => (if t146 = true then (some false) else ((kinds_Void.f kj17 ((((rdOf ByteArray.empty t138 (ji6)).extract 0 (ji14 : Int).toNat) ++ (strOfNums y142)) ++ ((rdOf ByteArray.empty t138 (ji6)).extract ((ji27) : Int).toNat (rdOf ByteArray.empty t138 (ji6)).size))).bind fun t147 => (if t147 = true then (some false) else ((kinds_Lines.f kj17 ((((rdOf ByteArray.empty t138 (ji6)).extract 0 (ji14 : Int).toNat) ++ (strOfNums y142)) ++ ((rdOf ByteArray.empty t138 (ji6)).extract ((ji27) : Int).toNat (rdOf ByteArray.empty t138 (ji6)).size))).bind fun t148 => (some (t148 == 0))))))) = some r := by rw [if_neg (show ¬ (false = true) by decide)] at H; exact H
                                      clear H
                                      have H := H1
                                      clear H1
                                      replace H := Option.bind_eq_some_iff.mp H
                                      obtain ⟨t146, A390, H⟩ := H
                                      replace H : (if t146 = true then (some false) else ((kinds_Void.f kj17 ((((rdOf ByteArray.empty t138 (ji6)).extract 0 (ji14 : Int).toNat) ++ (strOfNums y142)) ++ ((rdOf ByteArray.empty t138 (ji6)).extract ((ji27) : Int).toNat (rdOf ByteArray.empty t138 (ji6)).size))).bind fun t147 => (if t147 = true then (some false) else ((kinds_Lines.f kj17 ((((rdOf ByteArray.empty t138 (ji6)).extract 0 (ji14 : Int).toNat) ++ (strOfNums y142)) ++ ((rdOf ByteArray.empty t138 (ji6)).extract ((ji27) : Int).toNat (rdOf ByteArray.empty t138 (ji6)).size))).bind fun t148 => (some (t148 == 0)))))) = some r := H
                                      have A39 := Aside0.mk A390
                                      clear A390
                                      by_cases c40 : t146 = true
                                      · subst c40
                                        have H1 : (some false) = some r := by rw [if_pos rfl] at H; exact H
                                        clear H
                                        have H := H1
                                        clear H1
                                        obtain rfl := Option.some.inj H
                                        try go_wp2
                                        have n0_ := Aside0.mk (below_drew1 HB.out)
                                        clear HB
                                        have HB := n0_
                                        clear n0_
                                        refine start_ (n := 14) (S := fun w' => True) (ds := []) #[false, false, false, false, false, false, false, false, false, false, false, false, false, false] (by kernel_rfl) rfl rfl trivial (fun hHeld => ?_); refine with_tabW flaillaw17_KindsCase.tab10 flaillaw17_KindsCase.bits10 (fun HT_ HW_ => ?_)
                                        generalize wc.drew = w41 at HB hHeld ⊢
                                        refine pure_ (i := 0) (N := some 39) (v := ?_) (a' := ?_) #[true, false, false, false, false, false, false, false, false, false, false, false, false, false] rfl rfl (any_of HT_.out (by kernel_rfl)) (fun _ _ _ h => h) (Or.inl ⟨by rfl, ?_⟩) ?_ ?_
                                        rotate_left
                                        · intro w'
                                          go_simp
                                          with_reducible rfl
                                        rotate_left
                                        · simp only [Act.put, List.setIfInBounds_toArray, List.set_cons_zero, List.set_cons_succ, i64_w, i32_w]
                                          rfl
                                        refine pure_ (i := 1) (N := some 40) (v := ?_) (a' := ?_) #[true, true, false, false, false, false, false, false, false, false, false, false, false, false] rfl rfl (any_of HT_.out (by kernel_rfl)) (fun _ _ _ h => h) (Or.inl ⟨by rfl, ?_⟩) ?_ ?_
                                        rotate_left
                                        · intro w'
                                          go_simp
                                          with_reducible rfl
                                        rotate_left
                                        · simp only [Act.put, List.setIfInBounds_toArray, List.set_cons_zero, List.set_cons_succ, i64_w, i32_w]
                                          rfl
                                        refine pure_ (i := 2) (N := some 41) (v := ?_) (a' := ?_) #[true, true, true, false, false, false, false, false, false, false, false, false, false, false] rfl rfl (any_of HT_.out (by kernel_rfl)) (fun _ _ _ h => h) (Or.inl ⟨by rfl, ?_⟩) ?_ ?_
                                        rotate_left
                                        · intro w'
                                          go_simp
                                          with_reducible rfl
                                        rotate_left
                                        · simp only [Act.put, List.setIfInBounds_toArray, List.set_cons_zero, List.set_cons_succ, i64_w, i32_w]
                                          rfl
                                        refine pure_ (i := 3) (N := some 42) (v := ?_) (a' := ?_) #[true, true, true, true, false, false, false, false, false, false, false, false, false, false] rfl rfl (any_of HT_.out (by kernel_rfl)) (fun _ _ _ h => h) (Or.inl ⟨by rfl, ?_⟩) ?_ ?_
                                        rotate_left
                                        · intro w'
                                          go_simp
                                          with_reducible rfl
                                        rotate_left
                                        · simp only [Act.put, List.setIfInBounds_toArray, List.set_cons_zero, List.set_cons_succ, i64_w, i32_w]
                                          rfl
                                        refine pure_ (i := 4) (N := some 43) (v := ?_) (a' := ?_) #[true, true, true, true, true, false, false, false, false, false, false, false, false, false] rfl rfl (any_of HT_.out (by kernel_rfl)) (fun _ _ _ h => h) (Or.inl ⟨by rfl, ?_⟩) ?_ ?_
                                        rotate_left
                                        · intro w'
                                          go_simp
                                          with_reducible rfl
                                        rotate_left
                                        · simp only [Act.put, List.setIfInBounds_toArray, List.set_cons_zero, List.set_cons_succ, i64_w, i32_w]
                                          rfl
                                        refine pure_ (i := 8) (N := some 47) (v := ?_) (a' := ?_) #[true, true, true, true, true, false, false, false, true, false, false, false, false, false] rfl rfl (any_of HT_.out (by kernel_rfl)) (fun _ _ _ h => h) (Or.inl ⟨by rfl, ?_⟩) ?_ ?_
                                        rotate_left
                                        · intro w'
                                          go_simp
                                          with_reducible rfl
                                        rotate_left
                                        · simp only [Act.put, List.setIfInBounds_toArray, List.set_cons_zero, List.set_cons_succ, i64_w, i32_w]
                                          rfl
                                        refine pure_ (i := 9) (N := some 48) (v := ?_) (a' := ?_) #[true, true, true, true, true, false, false, false, true, true, false, false, false, false] rfl rfl (any_of HT_.out (by kernel_rfl)) (fun _ _ _ h => h) (Or.inl ⟨by rfl, ?_⟩) ?_ ?_
                                        rotate_left
                                        · intro w'
                                          go_simp
                                          with_reducible rfl
                                        rotate_left
                                        · simp only [Act.put, List.setIfInBounds_toArray, List.set_cons_zero, List.set_cons_succ, i64_w, i32_w]
                                          rfl
                                        refine pure_ (i := 10) (N := some 49) (v := ?_) (a' := ?_) #[true, true, true, true, true, false, false, false, true, true, true, false, false, false] rfl rfl (any_of HT_.out (by kernel_rfl)) (fun _ _ _ h => h) (Or.inl ⟨by rfl, ?_⟩) ?_ ?_
                                        rotate_left
                                        · intro w'
                                          go_simp
                                          with_reducible rfl
                                        rotate_left
                                        · simp only [Act.put, List.setIfInBounds_toArray, List.set_cons_zero, List.set_cons_succ, i64_w, i32_w]
                                          rfl
                                        refine pure_ (i := 11) (N := some 50) (v := ?_) (a' := ?_) #[true, true, true, true, true, false, false, false, true, true, true, true, false, false] rfl rfl (any_of HT_.out (by kernel_rfl)) (fun _ _ _ h => h) (Or.inl ⟨by rfl, ?_⟩) ?_ ?_
                                        rotate_left
                                        · intro w'
                                          go_simp
                                          with_reducible rfl
                                        rotate_left
                                        · simp only [Act.put, List.setIfInBounds_toArray, List.set_cons_zero, List.set_cons_succ, i64_w, i32_w]
                                          rfl
                                        refine one_ (i := 5) (N := some 44) #[true, true, true, true, true, true, false, false, true, true, true, true, false, false] rfl rfl (one_of HT_.out (by kernel_rfl)) (by decide) (fun K hK => ?_)
                                        refine Kd.R_lit_step (Kd.int .u8) _ 5 ?hg (N := 44) ?hd (xs := ([((bt (rdOf ByteArray.empty t138 (ji6)) (ji14)) - 32) % 256] : List Int)) (inner := [.int .u8 (((bt (rdOf ByteArray.empty t138 (ji6)) (ji14)) - 32) % 256)]) (ok := fun _ => True) (okp := fun _ => True) ?hr ?hp (fun _ hk => hk) trivial (Below.refl _ _) (Nat.le_refl _) (by simp) ?_; (case hd => rfl); (case hg => rfl); (case hr => first | (go_simp; done) | (go_simp; rfl)); (case hp => exact (Reps.one (show Kd.M (Kd.int .u8) _ _ _ (((bt (rdOf ByteArray.empty t138 (ji6)) (ji14)) - 32) % 256) [.int .u8 (((bt (rdOf ByteArray.empty t138 (ji6)) (ji14)) - 32) % 256)] from rfl) (Reps.none _ _)))
                                        intro v143 w42 ho43 hb hg_ hnew_
                                        clear hg_ hnew_
                                        (first | rw [← Ny142.out] at ho43 | (simp only [Int.reduceToNat] at ho43; rw [← Ny142.out] at ho43))
                                        have n0_ := Aside0.mk (Kd.R_lower ho43 (below_size (by repeat (first | (with_reducible first | exact HB.out | apply below_alloc | apply pw_below_drewN | apply below_drew1) | exact HB.out))))
                                        have n1_ := Aside0.mk (below_step (by repeat (first | (with_reducible first | exact HB.out | apply below_alloc | apply pw_below_drewN | apply below_drew1) | exact HB.out)) hb)
                                        clear HB
                                        have HO144 := n0_
                                        have HB := n1_
                                        clear n0_ n1_
                                        clear hb ho43
                                        refine hK.out _ _ trivial (fun hHeld => ?_)
                                        clear hK K
                                        refine norm_ (a' := ?_) ?_ ?_
                                        rotate_left
                                        · show Act.put _ (some 44) _ = _
                                          simp only [Act.put, List.setIfInBounds_toArray, List.set_cons_zero, List.set_cons_succ, i64_w, i32_w]
                                          rfl
                                        refine one_ (i := 6) (N := some 45) #[true, true, true, true, true, true, true, false, true, true, true, true, false, false] rfl rfl (one_of HT_.out (by kernel_rfl)) (by decide) (fun K hK => ?_)
                                        have hcv44 := own_string (P := Try.prog) Try.underlying30 Try.underlying5 Try.underlying9 (Kd.own_of_R HO144.out)
                                        refine value_ (w1 := ?_) (v := ?_) (by rfl) rfl ?_ ?_
                                        rotate_left 2
                                        · go_simp
                                          constructor
                                          · rfl
                                          · rfl
                                        clear hcv44
                                        refine hK.out _ _ trivial (fun hHeld => ?_)
                                        clear hK K
                                        refine norm_ (a' := ?_) ?_ ?_
                                        rotate_left
                                        · show Act.put _ (some 45) _ = _
                                          simp only [Act.put, List.setIfInBounds_toArray, List.set_cons_zero, List.set_cons_succ, i64_w, i32_w]
                                          rfl
                                        refine pure_ (i := 7) (N := some 46) (v := ?_) (a' := ?_) #[true, true, true, true, true, true, true, true, true, true, true, true, false, false] rfl rfl (any_of HT_.out (by kernel_rfl)) (fun _ _ _ h => h) (Or.inl ⟨by rfl, ?_⟩) ?_ ?_
                                        rotate_left
                                        · intro w'
                                          go_simp
                                          with_reducible rfl
                                        rotate_left
                                        · simp only [Act.put, List.setIfInBounds_toArray, List.set_cons_zero, List.set_cons_succ, i64_w, i32_w]
                                          rfl
                                        refine pure_ (i := 12) (N := some 51) (v := ?_) (a' := ?_) #[true, true, true, true, true, true, true, true, true, true, true, true, true, false] rfl rfl (any_of HT_.out (by kernel_rfl)) (fun _ _ _ h => h) (Or.inl ⟨by rfl, ?_⟩) ?_ ?_
                                        rotate_left
                                        · intro w'
                                          go_simp
                                          with_reducible rfl
                                        rotate_left
                                        · simp only [Act.put, List.setIfInBounds_toArray, List.set_cons_zero, List.set_cons_succ, i64_w, i32_w]
                                          rfl
                                        refine pure_ (i := 13) (N := some 10) (v := ?_) (a' := ?_) #[true, true, true, true, true, true, true, true, true, true, true, true, true, true] rfl rfl (any_of HT_.out (by kernel_rfl)) (fun _ _ _ h => h) (Or.inl ⟨by rfl, ?_⟩) ?_ ?_
                                        rotate_left
                                        · intro w'
                                          go_simp
                                          with_reducible rfl
                                        rotate_left
                                        · simp only [Act.put, List.setIfInBounds_toArray, List.set_cons_zero, List.set_cons_succ, i64_w, i32_w]
                                          rfl
                                        refine done_ (done_of HT_.out (by kernel_rfl)) ?_
                                        try go_wp2_with (first | (go_at_call 9; (with_reducible refine (kinds_Hides.calls kj17 ((((rdOf ByteArray.empty t138 (ji6)).extract 0 (ji14 : Int).toNat) ++ (strOfNums y142)) ++ ((rdOf ByteArray.empty t138 (ji6)).extract ((ji27) : Int).toNat (rdOf ByteArray.empty t138 (ji6)).size)) false _ A32.out).mono ?_); rintro e w45 ⟨rfl, hb⟩; have n0_ := Aside0.mk (Kd.R_below (by (with_reducible repeat (first | apply Kd.R_alloc | apply Kd.R_drewN | apply Kd.R_drew)); exact HO144.out) hb); have n1_ := Aside0.mk (below_step (by repeat (first | (with_reducible first | exact HB.out | apply below_alloc | apply pw_below_drewN | apply below_drew1) | exact HB.out)) hb); clear HO144; clear HB; have HO144 := n0_; have HB := n1_; clear n0_ n1_; (try clear hb); (try clear hb2); (try clear hk); (try clear hi)) | (go_at_call 11; (with_reducible refine (kinds_Keeps.calls kj17 ((((rdOf ByteArray.empty t138 (ji6)).extract 0 (ji14 : Int).toNat) ++ (strOfNums y142)) ++ ((rdOf ByteArray.empty t138 (ji6)).extract ((ji27) : Int).toNat (rdOf ByteArray.empty t138 (ji6)).size)) true _ A39.out).mono ?_); rintro e w46 ⟨rfl, hb⟩; have n0_ := Aside0.mk (Kd.R_below (by (with_reducible repeat (first | apply Kd.R_alloc | apply Kd.R_drewN | apply Kd.R_drew)); exact HO144.out) hb); have n1_ := Aside0.mk (below_step (by repeat (first | (with_reducible first | exact HB.out | apply below_alloc | apply pw_below_drewN | apply below_drew1) | exact HB.out)) hb); clear HO144; clear HB; have HO144 := n0_; have HB := n1_; clear n0_ n1_; (try clear hb); (try clear hb2); (try clear hk); (try clear hi)))
                                        go_ret
                                        exact ⟨by first | rfl | (simp [errW_none, errW_some] <;> rfl) | (simp only [← hji6, ← hji14, ← hji27]; first | rfl | (simp [errW_none, errW_some] <;> rfl)) | (simp [*, errW_none, errW_some] <;> rfl), by repeat (first | (with_reducible first | exact HB.out | apply below_alloc | apply pw_below_drewN | apply below_drew1) | exact HB.out)⟩
                                      · replace c40 := Bool.eq_false_iff.mpr c40
                                        subst c40
                                        have H1 : ((kinds_Void.f kj17 ((((rdOf ByteArray.empty t138 (ji6)).extract 0 (ji14 : Int).toNat) ++ (strOfNums y142)) ++ ((rdOf ByteArray.empty t138 (ji6)).extract ((ji27) : Int).toNat (rdOf ByteArray.empty t138 (ji6)).size))).bind fun t147 => (if t147 = true then (some false) else ((kinds_Lines.f kj17 ((((rdOf ByteArray.empty t138 (ji6)).extract 0 (ji14 : Int).toNat) ++ (strOfNums y142)) ++ ((rdOf ByteArray.empty t138 (ji6)).extract ((ji27) : Int).toNat (rdOf ByteArray.empty t138 (ji6)).size))).bind fun t148 => (some (t148 == 0))))) = some r := by rw [if_neg (show ¬ (false = true) by decide)] at H; exact H
                                        clear H
                                        have H := H1
                                        clear H1
                                        replace H := Option.bind_eq_some_iff.mp H
                                        obtain ⟨t147, A470, H⟩ := H
                                        replace H : (if t147 = true then (some false) else ((kinds_Lines.f kj17 ((((rdOf ByteArray.empty t138 (ji6)).extract 0 (ji14 : Int).toNat) ++ (strOfNums y142)) ++ ((rdOf ByteArray.empty t138 (ji6)).extract ((ji27) : Int).toNat (rdOf ByteArray.empty t138 (ji6)).size))).bind fun t148 => (some (t148 == 0)))) = some r := H
                                        have A47 := Aside0.mk A470
                                        clear A470
                                        by_cases c48 : t147 = true
                                        · subst c48
                                          have H1 : (some false) = some r := by rw [if_pos rfl] at H; exact H
                                          clear H
                                          have H := H1
                                          clear H1
                                          obtain rfl := Option.some.inj H
                                          try go_wp2
                                          have n0_ := Aside0.mk (below_drew1 HB.out)
                                          clear HB
                                          have HB := n0_
                                          clear n0_
                                          refine start_ (n := 14) (S := fun w' => True) (ds := []) #[false, false, false, false, false, false, false, false, false, false, false, false, false, false] (by kernel_rfl) rfl rfl trivial (fun hHeld => ?_); refine with_tabW flaillaw17_KindsCase.tab10 flaillaw17_KindsCase.bits10 (fun HT_ HW_ => ?_)
                                          generalize wc.drew = w49 at HB hHeld ⊢
                                          refine pure_ (i := 0) (N := some 39) (v := ?_) (a' := ?_) #[true, false, false, false, false, false, false, false, false, false, false, false, false, false] rfl rfl (any_of HT_.out (by kernel_rfl)) (fun _ _ _ h => h) (Or.inl ⟨by rfl, ?_⟩) ?_ ?_
                                          rotate_left
                                          · intro w'
                                            go_simp
                                            with_reducible rfl
                                          rotate_left
                                          · simp only [Act.put, List.setIfInBounds_toArray, List.set_cons_zero, List.set_cons_succ, i64_w, i32_w]
                                            rfl
                                          refine pure_ (i := 1) (N := some 40) (v := ?_) (a' := ?_) #[true, true, false, false, false, false, false, false, false, false, false, false, false, false] rfl rfl (any_of HT_.out (by kernel_rfl)) (fun _ _ _ h => h) (Or.inl ⟨by rfl, ?_⟩) ?_ ?_
                                          rotate_left
                                          · intro w'
                                            go_simp
                                            with_reducible rfl
                                          rotate_left
                                          · simp only [Act.put, List.setIfInBounds_toArray, List.set_cons_zero, List.set_cons_succ, i64_w, i32_w]
                                            rfl
                                          refine pure_ (i := 2) (N := some 41) (v := ?_) (a' := ?_) #[true, true, true, false, false, false, false, false, false, false, false, false, false, false] rfl rfl (any_of HT_.out (by kernel_rfl)) (fun _ _ _ h => h) (Or.inl ⟨by rfl, ?_⟩) ?_ ?_
                                          rotate_left
                                          · intro w'
                                            go_simp
                                            with_reducible rfl
                                          rotate_left
                                          · simp only [Act.put, List.setIfInBounds_toArray, List.set_cons_zero, List.set_cons_succ, i64_w, i32_w]
                                            rfl
                                          refine pure_ (i := 3) (N := some 42) (v := ?_) (a' := ?_) #[true, true, true, true, false, false, false, false, false, false, false, false, false, false] rfl rfl (any_of HT_.out (by kernel_rfl)) (fun _ _ _ h => h) (Or.inl ⟨by rfl, ?_⟩) ?_ ?_
                                          rotate_left
                                          · intro w'
                                            go_simp
                                            with_reducible rfl
                                          rotate_left
                                          · simp only [Act.put, List.setIfInBounds_toArray, List.set_cons_zero, List.set_cons_succ, i64_w, i32_w]
                                            rfl
                                          refine pure_ (i := 4) (N := some 43) (v := ?_) (a' := ?_) #[true, true, true, true, true, false, false, false, false, false, false, false, false, false] rfl rfl (any_of HT_.out (by kernel_rfl)) (fun _ _ _ h => h) (Or.inl ⟨by rfl, ?_⟩) ?_ ?_
                                          rotate_left
                                          · intro w'
                                            go_simp
                                            with_reducible rfl
                                          rotate_left
                                          · simp only [Act.put, List.setIfInBounds_toArray, List.set_cons_zero, List.set_cons_succ, i64_w, i32_w]
                                            rfl
                                          refine pure_ (i := 8) (N := some 47) (v := ?_) (a' := ?_) #[true, true, true, true, true, false, false, false, true, false, false, false, false, false] rfl rfl (any_of HT_.out (by kernel_rfl)) (fun _ _ _ h => h) (Or.inl ⟨by rfl, ?_⟩) ?_ ?_
                                          rotate_left
                                          · intro w'
                                            go_simp
                                            with_reducible rfl
                                          rotate_left
                                          · simp only [Act.put, List.setIfInBounds_toArray, List.set_cons_zero, List.set_cons_succ, i64_w, i32_w]
                                            rfl
                                          refine pure_ (i := 9) (N := some 48) (v := ?_) (a' := ?_) #[true, true, true, true, true, false, false, false, true, true, false, false, false, false] rfl rfl (any_of HT_.out (by kernel_rfl)) (fun _ _ _ h => h) (Or.inl ⟨by rfl, ?_⟩) ?_ ?_
                                          rotate_left
                                          · intro w'
                                            go_simp
                                            with_reducible rfl
                                          rotate_left
                                          · simp only [Act.put, List.setIfInBounds_toArray, List.set_cons_zero, List.set_cons_succ, i64_w, i32_w]
                                            rfl
                                          refine pure_ (i := 10) (N := some 49) (v := ?_) (a' := ?_) #[true, true, true, true, true, false, false, false, true, true, true, false, false, false] rfl rfl (any_of HT_.out (by kernel_rfl)) (fun _ _ _ h => h) (Or.inl ⟨by rfl, ?_⟩) ?_ ?_
                                          rotate_left
                                          · intro w'
                                            go_simp
                                            with_reducible rfl
                                          rotate_left
                                          · simp only [Act.put, List.setIfInBounds_toArray, List.set_cons_zero, List.set_cons_succ, i64_w, i32_w]
                                            rfl
                                          refine pure_ (i := 11) (N := some 50) (v := ?_) (a' := ?_) #[true, true, true, true, true, false, false, false, true, true, true, true, false, false] rfl rfl (any_of HT_.out (by kernel_rfl)) (fun _ _ _ h => h) (Or.inl ⟨by rfl, ?_⟩) ?_ ?_
                                          rotate_left
                                          · intro w'
                                            go_simp
                                            with_reducible rfl
                                          rotate_left
                                          · simp only [Act.put, List.setIfInBounds_toArray, List.set_cons_zero, List.set_cons_succ, i64_w, i32_w]
                                            rfl
                                          refine one_ (i := 5) (N := some 44) #[true, true, true, true, true, true, false, false, true, true, true, true, false, false] rfl rfl (one_of HT_.out (by kernel_rfl)) (by decide) (fun K hK => ?_)
                                          refine Kd.R_lit_step (Kd.int .u8) _ 5 ?hg (N := 44) ?hd (xs := ([((bt (rdOf ByteArray.empty t138 (ji6)) (ji14)) - 32) % 256] : List Int)) (inner := [.int .u8 (((bt (rdOf ByteArray.empty t138 (ji6)) (ji14)) - 32) % 256)]) (ok := fun _ => True) (okp := fun _ => True) ?hr ?hp (fun _ hk => hk) trivial (Below.refl _ _) (Nat.le_refl _) (by simp) ?_; (case hd => rfl); (case hg => rfl); (case hr => first | (go_simp; done) | (go_simp; rfl)); (case hp => exact (Reps.one (show Kd.M (Kd.int .u8) _ _ _ (((bt (rdOf ByteArray.empty t138 (ji6)) (ji14)) - 32) % 256) [.int .u8 (((bt (rdOf ByteArray.empty t138 (ji6)) (ji14)) - 32) % 256)] from rfl) (Reps.none _ _)))
                                          intro v143 w50 ho51 hb hg_ hnew_
                                          clear hg_ hnew_
                                          (first | rw [← Ny142.out] at ho51 | (simp only [Int.reduceToNat] at ho51; rw [← Ny142.out] at ho51))
                                          have n0_ := Aside0.mk (Kd.R_lower ho51 (below_size (by repeat (first | (with_reducible first | exact HB.out | apply below_alloc | apply pw_below_drewN | apply below_drew1) | exact HB.out))))
                                          have n1_ := Aside0.mk (below_step (by repeat (first | (with_reducible first | exact HB.out | apply below_alloc | apply pw_below_drewN | apply below_drew1) | exact HB.out)) hb)
                                          clear HB
                                          have HO144 := n0_
                                          have HB := n1_
                                          clear n0_ n1_
                                          clear hb ho51
                                          refine hK.out _ _ trivial (fun hHeld => ?_)
                                          clear hK K
                                          refine norm_ (a' := ?_) ?_ ?_
                                          rotate_left
                                          · show Act.put _ (some 44) _ = _
                                            simp only [Act.put, List.setIfInBounds_toArray, List.set_cons_zero, List.set_cons_succ, i64_w, i32_w]
                                            rfl
                                          refine one_ (i := 6) (N := some 45) #[true, true, true, true, true, true, true, false, true, true, true, true, false, false] rfl rfl (one_of HT_.out (by kernel_rfl)) (by decide) (fun K hK => ?_)
                                          have hcv52 := own_string (P := Try.prog) Try.underlying30 Try.underlying5 Try.underlying9 (Kd.own_of_R HO144.out)
                                          refine value_ (w1 := ?_) (v := ?_) (by rfl) rfl ?_ ?_
                                          rotate_left 2
                                          · go_simp
                                            constructor
                                            · rfl
                                            · rfl
                                          clear hcv52
                                          refine hK.out _ _ trivial (fun hHeld => ?_)
                                          clear hK K
                                          refine norm_ (a' := ?_) ?_ ?_
                                          rotate_left
                                          · show Act.put _ (some 45) _ = _
                                            simp only [Act.put, List.setIfInBounds_toArray, List.set_cons_zero, List.set_cons_succ, i64_w, i32_w]
                                            rfl
                                          refine pure_ (i := 7) (N := some 46) (v := ?_) (a' := ?_) #[true, true, true, true, true, true, true, true, true, true, true, true, false, false] rfl rfl (any_of HT_.out (by kernel_rfl)) (fun _ _ _ h => h) (Or.inl ⟨by rfl, ?_⟩) ?_ ?_
                                          rotate_left
                                          · intro w'
                                            go_simp
                                            with_reducible rfl
                                          rotate_left
                                          · simp only [Act.put, List.setIfInBounds_toArray, List.set_cons_zero, List.set_cons_succ, i64_w, i32_w]
                                            rfl
                                          refine pure_ (i := 12) (N := some 51) (v := ?_) (a' := ?_) #[true, true, true, true, true, true, true, true, true, true, true, true, true, false] rfl rfl (any_of HT_.out (by kernel_rfl)) (fun _ _ _ h => h) (Or.inl ⟨by rfl, ?_⟩) ?_ ?_
                                          rotate_left
                                          · intro w'
                                            go_simp
                                            with_reducible rfl
                                          rotate_left
                                          · simp only [Act.put, List.setIfInBounds_toArray, List.set_cons_zero, List.set_cons_succ, i64_w, i32_w]
                                            rfl
                                          refine pure_ (i := 13) (N := some 10) (v := ?_) (a' := ?_) #[true, true, true, true, true, true, true, true, true, true, true, true, true, true] rfl rfl (any_of HT_.out (by kernel_rfl)) (fun _ _ _ h => h) (Or.inl ⟨by rfl, ?_⟩) ?_ ?_
                                          rotate_left
                                          · intro w'
                                            go_simp
                                            with_reducible rfl
                                          rotate_left
                                          · simp only [Act.put, List.setIfInBounds_toArray, List.set_cons_zero, List.set_cons_succ, i64_w, i32_w]
                                            rfl
                                          refine done_ (done_of HT_.out (by kernel_rfl)) ?_
                                          try go_wp2_with (first | (go_at_call 9; (with_reducible refine (kinds_Hides.calls kj17 ((((rdOf ByteArray.empty t138 (ji6)).extract 0 (ji14 : Int).toNat) ++ (strOfNums y142)) ++ ((rdOf ByteArray.empty t138 (ji6)).extract ((ji27) : Int).toNat (rdOf ByteArray.empty t138 (ji6)).size)) false _ A32.out).mono ?_); rintro e w53 ⟨rfl, hb⟩; have n0_ := Aside0.mk (Kd.R_below (by (with_reducible repeat (first | apply Kd.R_alloc | apply Kd.R_drewN | apply Kd.R_drew)); exact HO144.out) hb); have n1_ := Aside0.mk (below_step (by repeat (first | (with_reducible first | exact HB.out | apply below_alloc | apply pw_below_drewN | apply below_drew1) | exact HB.out)) hb); clear HO144; clear HB; have HO144 := n0_; have HB := n1_; clear n0_ n1_; (try clear hb); (try clear hb2); (try clear hk); (try clear hi)) | (go_at_call 11; (with_reducible refine (kinds_Keeps.calls kj17 ((((rdOf ByteArray.empty t138 (ji6)).extract 0 (ji14 : Int).toNat) ++ (strOfNums y142)) ++ ((rdOf ByteArray.empty t138 (ji6)).extract ((ji27) : Int).toNat (rdOf ByteArray.empty t138 (ji6)).size)) false _ A39.out).mono ?_); rintro e w54 ⟨rfl, hb⟩; have n0_ := Aside0.mk (Kd.R_below (by (with_reducible repeat (first | apply Kd.R_alloc | apply Kd.R_drewN | apply Kd.R_drew)); exact HO144.out) hb); have n1_ := Aside0.mk (below_step (by repeat (first | (with_reducible first | exact HB.out | apply below_alloc | apply pw_below_drewN | apply below_drew1) | exact HB.out)) hb); clear HO144; clear HB; have HO144 := n0_; have HB := n1_; clear n0_ n1_; (try clear hb); (try clear hb2); (try clear hk); (try clear hi)) | (go_at_call 15; (with_reducible refine (kinds_Void.calls kj17 ((((rdOf ByteArray.empty t138 (ji6)).extract 0 (ji14 : Int).toNat) ++ (strOfNums y142)) ++ ((rdOf ByteArray.empty t138 (ji6)).extract ((ji27) : Int).toNat (rdOf ByteArray.empty t138 (ji6)).size)) true _ A47.out).mono ?_); rintro e w55 ⟨rfl, hb⟩; have n0_ := Aside0.mk (Kd.R_below (by (with_reducible repeat (first | apply Kd.R_alloc | apply Kd.R_drewN | apply Kd.R_drew)); exact HO144.out) hb); have n1_ := Aside0.mk (below_step (by repeat (first | (with_reducible first | exact HB.out | apply below_alloc | apply pw_below_drewN | apply below_drew1) | exact HB.out)) hb); clear HO144; clear HB; have HO144 := n0_; have HB := n1_; clear n0_ n1_; (try clear hb); (try clear hb2); (try clear hk); (try clear hi)))
                                          go_ret
                                          exact ⟨by first | rfl | (simp [errW_none, errW_some] <;> rfl) | (simp only [← hji6, ← hji14, ← hji27]; first | rfl | (simp [errW_none, errW_some] <;> rfl)) | (simp [*, errW_none, errW_some] <;> rfl), by repeat (first | (with_reducible first | exact HB.out | apply below_alloc | apply pw_below_drewN | apply below_drew1) | exact HB.out)⟩
                                        · replace c48 := Bool.eq_false_iff.mpr c48
                                          subst c48
                                          have H1 : ((kinds_Lines.f kj17 ((((rdOf ByteArray.empty t138 (ji6)).extract 0 (ji14 : Int).toNat) ++ (strOfNums y142)) ++ ((rdOf ByteArray.empty t138 (ji6)).extract ((ji27) : Int).toNat (rdOf ByteArray.empty t138 (ji6)).size))).bind fun t148 => (some (t148 == 0))) = some r := by rw [if_neg (show ¬ (false = true) by decide)] at H; exact H
                                          clear H
                                          have H := H1
                                          clear H1
                                          replace H := Option.bind_eq_some_iff.mp H
                                          obtain ⟨t148, A560, H⟩ := H
                                          replace H : (some (t148 == 0)) = some r := H
                                          have A56 := Aside0.mk A560
                                          clear A560
                                          obtain rfl := Option.some.inj H
                                          try go_wp2
                                          have n0_ := Aside0.mk (below_drew1 HB.out)
                                          clear HB
                                          have HB := n0_
                                          clear n0_
                                          refine start_ (n := 14) (S := fun w' => True) (ds := []) #[false, false, false, false, false, false, false, false, false, false, false, false, false, false] (by kernel_rfl) rfl rfl trivial (fun hHeld => ?_); refine with_tabW flaillaw17_KindsCase.tab10 flaillaw17_KindsCase.bits10 (fun HT_ HW_ => ?_)
                                          generalize wc.drew = w57 at HB hHeld ⊢
                                          refine pure_ (i := 0) (N := some 39) (v := ?_) (a' := ?_) #[true, false, false, false, false, false, false, false, false, false, false, false, false, false] rfl rfl (any_of HT_.out (by kernel_rfl)) (fun _ _ _ h => h) (Or.inl ⟨by rfl, ?_⟩) ?_ ?_
                                          rotate_left
                                          · intro w'
                                            go_simp
                                            with_reducible rfl
                                          rotate_left
                                          · simp only [Act.put, List.setIfInBounds_toArray, List.set_cons_zero, List.set_cons_succ, i64_w, i32_w]
                                            rfl
                                          refine pure_ (i := 1) (N := some 40) (v := ?_) (a' := ?_) #[true, true, false, false, false, false, false, false, false, false, false, false, false, false] rfl rfl (any_of HT_.out (by kernel_rfl)) (fun _ _ _ h => h) (Or.inl ⟨by rfl, ?_⟩) ?_ ?_
                                          rotate_left
                                          · intro w'
                                            go_simp
                                            with_reducible rfl
                                          rotate_left
                                          · simp only [Act.put, List.setIfInBounds_toArray, List.set_cons_zero, List.set_cons_succ, i64_w, i32_w]
                                            rfl
                                          refine pure_ (i := 2) (N := some 41) (v := ?_) (a' := ?_) #[true, true, true, false, false, false, false, false, false, false, false, false, false, false] rfl rfl (any_of HT_.out (by kernel_rfl)) (fun _ _ _ h => h) (Or.inl ⟨by rfl, ?_⟩) ?_ ?_
                                          rotate_left
                                          · intro w'
                                            go_simp
                                            with_reducible rfl
                                          rotate_left
                                          · simp only [Act.put, List.setIfInBounds_toArray, List.set_cons_zero, List.set_cons_succ, i64_w, i32_w]
                                            rfl
                                          refine pure_ (i := 3) (N := some 42) (v := ?_) (a' := ?_) #[true, true, true, true, false, false, false, false, false, false, false, false, false, false] rfl rfl (any_of HT_.out (by kernel_rfl)) (fun _ _ _ h => h) (Or.inl ⟨by rfl, ?_⟩) ?_ ?_
                                          rotate_left
                                          · intro w'
                                            go_simp
                                            with_reducible rfl
                                          rotate_left
                                          · simp only [Act.put, List.setIfInBounds_toArray, List.set_cons_zero, List.set_cons_succ, i64_w, i32_w]
                                            rfl
                                          refine pure_ (i := 4) (N := some 43) (v := ?_) (a' := ?_) #[true, true, true, true, true, false, false, false, false, false, false, false, false, false] rfl rfl (any_of HT_.out (by kernel_rfl)) (fun _ _ _ h => h) (Or.inl ⟨by rfl, ?_⟩) ?_ ?_
                                          rotate_left
                                          · intro w'
                                            go_simp
                                            with_reducible rfl
                                          rotate_left
                                          · simp only [Act.put, List.setIfInBounds_toArray, List.set_cons_zero, List.set_cons_succ, i64_w, i32_w]
                                            rfl
                                          refine pure_ (i := 8) (N := some 47) (v := ?_) (a' := ?_) #[true, true, true, true, true, false, false, false, true, false, false, false, false, false] rfl rfl (any_of HT_.out (by kernel_rfl)) (fun _ _ _ h => h) (Or.inl ⟨by rfl, ?_⟩) ?_ ?_
                                          rotate_left
                                          · intro w'
                                            go_simp
                                            with_reducible rfl
                                          rotate_left
                                          · simp only [Act.put, List.setIfInBounds_toArray, List.set_cons_zero, List.set_cons_succ, i64_w, i32_w]
                                            rfl
                                          refine pure_ (i := 9) (N := some 48) (v := ?_) (a' := ?_) #[true, true, true, true, true, false, false, false, true, true, false, false, false, false] rfl rfl (any_of HT_.out (by kernel_rfl)) (fun _ _ _ h => h) (Or.inl ⟨by rfl, ?_⟩) ?_ ?_
                                          rotate_left
                                          · intro w'
                                            go_simp
                                            with_reducible rfl
                                          rotate_left
                                          · simp only [Act.put, List.setIfInBounds_toArray, List.set_cons_zero, List.set_cons_succ, i64_w, i32_w]
                                            rfl
                                          refine pure_ (i := 10) (N := some 49) (v := ?_) (a' := ?_) #[true, true, true, true, true, false, false, false, true, true, true, false, false, false] rfl rfl (any_of HT_.out (by kernel_rfl)) (fun _ _ _ h => h) (Or.inl ⟨by rfl, ?_⟩) ?_ ?_
                                          rotate_left
                                          · intro w'
                                            go_simp
                                            with_reducible rfl
                                          rotate_left
                                          · simp only [Act.put, List.setIfInBounds_toArray, List.set_cons_zero, List.set_cons_succ, i64_w, i32_w]
                                            rfl
                                          refine pure_ (i := 11) (N := some 50) (v := ?_) (a' := ?_) #[true, true, true, true, true, false, false, false, true, true, true, true, false, false] rfl rfl (any_of HT_.out (by kernel_rfl)) (fun _ _ _ h => h) (Or.inl ⟨by rfl, ?_⟩) ?_ ?_
                                          rotate_left
                                          · intro w'
                                            go_simp
                                            with_reducible rfl
                                          rotate_left
                                          · simp only [Act.put, List.setIfInBounds_toArray, List.set_cons_zero, List.set_cons_succ, i64_w, i32_w]
                                            rfl
                                          refine one_ (i := 5) (N := some 44) #[true, true, true, true, true, true, false, false, true, true, true, true, false, false] rfl rfl (one_of HT_.out (by kernel_rfl)) (by decide) (fun K hK => ?_)
                                          refine Kd.R_lit_step (Kd.int .u8) _ 5 ?hg (N := 44) ?hd (xs := ([((bt (rdOf ByteArray.empty t138 (ji6)) (ji14)) - 32) % 256] : List Int)) (inner := [.int .u8 (((bt (rdOf ByteArray.empty t138 (ji6)) (ji14)) - 32) % 256)]) (ok := fun _ => True) (okp := fun _ => True) ?hr ?hp (fun _ hk => hk) trivial (Below.refl _ _) (Nat.le_refl _) (by simp) ?_; (case hd => rfl); (case hg => rfl); (case hr => first | (go_simp; done) | (go_simp; rfl)); (case hp => exact (Reps.one (show Kd.M (Kd.int .u8) _ _ _ (((bt (rdOf ByteArray.empty t138 (ji6)) (ji14)) - 32) % 256) [.int .u8 (((bt (rdOf ByteArray.empty t138 (ji6)) (ji14)) - 32) % 256)] from rfl) (Reps.none _ _)))
                                          intro v143 w58 ho59 hb hg_ hnew_
                                          clear hg_ hnew_
                                          (first | rw [← Ny142.out] at ho59 | (simp only [Int.reduceToNat] at ho59; rw [← Ny142.out] at ho59))
                                          have n0_ := Aside0.mk (Kd.R_lower ho59 (below_size (by repeat (first | (with_reducible first | exact HB.out | apply below_alloc | apply pw_below_drewN | apply below_drew1) | exact HB.out))))
                                          have n1_ := Aside0.mk (below_step (by repeat (first | (with_reducible first | exact HB.out | apply below_alloc | apply pw_below_drewN | apply below_drew1) | exact HB.out)) hb)
                                          clear HB
                                          have HO144 := n0_
                                          have HB := n1_
                                          clear n0_ n1_
                                          clear hb ho59
                                          refine hK.out _ _ trivial (fun hHeld => ?_)
                                          clear hK K
                                          refine norm_ (a' := ?_) ?_ ?_
                                          rotate_left
                                          · show Act.put _ (some 44) _ = _
                                            simp only [Act.put, List.setIfInBounds_toArray, List.set_cons_zero, List.set_cons_succ, i64_w, i32_w]
                                            rfl
                                          refine one_ (i := 6) (N := some 45) #[true, true, true, true, true, true, true, false, true, true, true, true, false, false] rfl rfl (one_of HT_.out (by kernel_rfl)) (by decide) (fun K hK => ?_)
                                          have hcv60 := own_string (P := Try.prog) Try.underlying30 Try.underlying5 Try.underlying9 (Kd.own_of_R HO144.out)
                                          refine value_ (w1 := ?_) (v := ?_) (by rfl) rfl ?_ ?_
                                          rotate_left 2
                                          · go_simp
                                            constructor
                                            · rfl
                                            · rfl
                                          clear hcv60
                                          refine hK.out _ _ trivial (fun hHeld => ?_)
                                          clear hK K
                                          refine norm_ (a' := ?_) ?_ ?_
                                          rotate_left
                                          · show Act.put _ (some 45) _ = _
                                            simp only [Act.put, List.setIfInBounds_toArray, List.set_cons_zero, List.set_cons_succ, i64_w, i32_w]
                                            rfl
                                          refine pure_ (i := 7) (N := some 46) (v := ?_) (a' := ?_) #[true, true, true, true, true, true, true, true, true, true, true, true, false, false] rfl rfl (any_of HT_.out (by kernel_rfl)) (fun _ _ _ h => h) (Or.inl ⟨by rfl, ?_⟩) ?_ ?_
                                          rotate_left
                                          · intro w'
                                            go_simp
                                            with_reducible rfl
                                          rotate_left
                                          · simp only [Act.put, List.setIfInBounds_toArray, List.set_cons_zero, List.set_cons_succ, i64_w, i32_w]
                                            rfl
                                          refine pure_ (i := 12) (N := some 51) (v := ?_) (a' := ?_) #[true, true, true, true, true, true, true, true, true, true, true, true, true, false] rfl rfl (any_of HT_.out (by kernel_rfl)) (fun _ _ _ h => h) (Or.inl ⟨by rfl, ?_⟩) ?_ ?_
                                          rotate_left
                                          · intro w'
                                            go_simp
                                            with_reducible rfl
                                          rotate_left
                                          · simp only [Act.put, List.setIfInBounds_toArray, List.set_cons_zero, List.set_cons_succ, i64_w, i32_w]
                                            rfl
                                          refine pure_ (i := 13) (N := some 10) (v := ?_) (a' := ?_) #[true, true, true, true, true, true, true, true, true, true, true, true, true, true] rfl rfl (any_of HT_.out (by kernel_rfl)) (fun _ _ _ h => h) (Or.inl ⟨by rfl, ?_⟩) ?_ ?_
                                          rotate_left
                                          · intro w'
                                            go_simp
                                            with_reducible rfl
                                          rotate_left
                                          · simp only [Act.put, List.setIfInBounds_toArray, List.set_cons_zero, List.set_cons_succ, i64_w, i32_w]
                                            rfl
                                          refine done_ (done_of HT_.out (by kernel_rfl)) ?_
                                          try go_wp2_with (first | (go_at_call 9; (with_reducible refine (kinds_Hides.calls kj17 ((((rdOf ByteArray.empty t138 (ji6)).extract 0 (ji14 : Int).toNat) ++ (strOfNums y142)) ++ ((rdOf ByteArray.empty t138 (ji6)).extract ((ji27) : Int).toNat (rdOf ByteArray.empty t138 (ji6)).size)) false _ A32.out).mono ?_); rintro e w61 ⟨rfl, hb⟩; have n0_ := Aside0.mk (Kd.R_below (by (with_reducible repeat (first | apply Kd.R_alloc | apply Kd.R_drewN | apply Kd.R_drew)); exact HO144.out) hb); have n1_ := Aside0.mk (below_step (by repeat (first | (with_reducible first | exact HB.out | apply below_alloc | apply pw_below_drewN | apply below_drew1) | exact HB.out)) hb); clear HO144; clear HB; have HO144 := n0_; have HB := n1_; clear n0_ n1_; (try clear hb); (try clear hb2); (try clear hk); (try clear hi)) | (go_at_call 11; (with_reducible refine (kinds_Keeps.calls kj17 ((((rdOf ByteArray.empty t138 (ji6)).extract 0 (ji14 : Int).toNat) ++ (strOfNums y142)) ++ ((rdOf ByteArray.empty t138 (ji6)).extract ((ji27) : Int).toNat (rdOf ByteArray.empty t138 (ji6)).size)) false _ A39.out).mono ?_); rintro e w62 ⟨rfl, hb⟩; have n0_ := Aside0.mk (Kd.R_below (by (with_reducible repeat (first | apply Kd.R_alloc | apply Kd.R_drewN | apply Kd.R_drew)); exact HO144.out) hb); have n1_ := Aside0.mk (below_step (by repeat (first | (with_reducible first | exact HB.out | apply below_alloc | apply pw_below_drewN | apply below_drew1) | exact HB.out)) hb); clear HO144; clear HB; have HO144 := n0_; have HB := n1_; clear n0_ n1_; (try clear hb); (try clear hb2); (try clear hk); (try clear hi)) | (go_at_call 15; (with_reducible refine (kinds_Void.calls kj17 ((((rdOf ByteArray.empty t138 (ji6)).extract 0 (ji14 : Int).toNat) ++ (strOfNums y142)) ++ ((rdOf ByteArray.empty t138 (ji6)).extract ((ji27) : Int).toNat (rdOf ByteArray.empty t138 (ji6)).size)) false _ A47.out).mono ?_); rintro e w63 ⟨rfl, hb⟩; have n0_ := Aside0.mk (Kd.R_below (by (with_reducible repeat (first | apply Kd.R_alloc | apply Kd.R_drewN | apply Kd.R_drew)); exact HO144.out) hb); have n1_ := Aside0.mk (below_step (by repeat (first | (with_reducible first | exact HB.out | apply below_alloc | apply pw_below_drewN | apply below_drew1) | exact HB.out)) hb); clear HO144; clear HB; have HO144 := n0_; have HB := n1_; clear n0_ n1_; (try clear hb); (try clear hb2); (try clear hk); (try clear hi)) | (go_at_call 13; (with_reducible refine (kinds_Lines.calls kj17 ((((rdOf ByteArray.empty t138 (ji6)).extract 0 (ji14 : Int).toNat) ++ (strOfNums y142)) ++ ((rdOf ByteArray.empty t138 (ji6)).extract ((ji27) : Int).toNat (rdOf ByteArray.empty t138 (ji6)).size)) t148 _ A56.out).mono ?_); rintro e w64 ⟨rfl, hb⟩; have n0_ := Aside0.mk (Kd.R_below (by (with_reducible repeat (first | apply Kd.R_alloc | apply Kd.R_drewN | apply Kd.R_drew)); exact HO144.out) hb); have n1_ := Aside0.mk (below_step (by repeat (first | (with_reducible first | exact HB.out | apply below_alloc | apply pw_below_drewN | apply below_drew1) | exact HB.out)) hb); clear HO144; clear HB; have HO144 := n0_; have HB := n1_; clear n0_ n1_; (try clear hb); (try clear hb2); (try clear hk); (try clear hi)))
                                          go_ret
                                          exact ⟨by first | rfl | (simp [errW_none, errW_some] <;> rfl) | (simp only [← hji6, ← hji14, ← hji27]; first | rfl | (simp [errW_none, errW_some] <;> rfl)) | (simp [*, errW_none, errW_some] <;> rfl), by repeat (first | (with_reducible first | exact HB.out | apply below_alloc | apply pw_below_drewN | apply below_drew1) | exact HB.out)⟩
                                  · replace c31 := Bool.eq_false_iff.mpr c31
                                    subst c31
                                    have H1 : (some false) = some r := by rw [if_neg (show ¬ (false = true) by decide)] at H; exact H
                                    clear H
                                    have H := H1
                                    clear H1
                                    obtain rfl := Option.some.inj H
                                    try go_wp2
                                    have n0_ := Aside0.mk (below_drew1 HB.out)
                                    clear HB
                                    have HB := n0_
                                    clear n0_
                                    refine start_ (n := 14) (S := fun w' => True) (ds := []) #[false, false, false, false, false, false, false, false, false, false, false, false, false, false] (by kernel_rfl) rfl rfl trivial (fun hHeld => ?_); refine with_tabW flaillaw17_KindsCase.tab10 flaillaw17_KindsCase.bits10 (fun HT_ HW_ => ?_)
                                    generalize wc.drew = w65 at HB hHeld ⊢
                                    refine pure_ (i := 0) (N := some 39) (v := ?_) (a' := ?_) #[true, false, false, false, false, false, false, false, false, false, false, false, false, false] rfl rfl (any_of HT_.out (by kernel_rfl)) (fun _ _ _ h => h) (Or.inl ⟨by rfl, ?_⟩) ?_ ?_
                                    rotate_left
                                    · intro w'
                                      go_simp
                                      with_reducible rfl
                                    rotate_left
                                    · simp only [Act.put, List.setIfInBounds_toArray, List.set_cons_zero, List.set_cons_succ, i64_w, i32_w]
                                      rfl
                                    refine pure_ (i := 1) (N := some 40) (v := ?_) (a' := ?_) #[true, true, false, false, false, false, false, false, false, false, false, false, false, false] rfl rfl (any_of HT_.out (by kernel_rfl)) (fun _ _ _ h => h) (Or.inl ⟨by rfl, ?_⟩) ?_ ?_
                                    rotate_left
                                    · intro w'
                                      go_simp
                                      with_reducible rfl
                                    rotate_left
                                    · simp only [Act.put, List.setIfInBounds_toArray, List.set_cons_zero, List.set_cons_succ, i64_w, i32_w]
                                      rfl
                                    refine pure_ (i := 2) (N := some 41) (v := ?_) (a' := ?_) #[true, true, true, false, false, false, false, false, false, false, false, false, false, false] rfl rfl (any_of HT_.out (by kernel_rfl)) (fun _ _ _ h => h) (Or.inl ⟨by rfl, ?_⟩) ?_ ?_
                                    rotate_left
                                    · intro w'
                                      go_simp
                                      with_reducible rfl
                                    rotate_left
                                    · simp only [Act.put, List.setIfInBounds_toArray, List.set_cons_zero, List.set_cons_succ, i64_w, i32_w]
                                      rfl
                                    refine pure_ (i := 3) (N := some 42) (v := ?_) (a' := ?_) #[true, true, true, true, false, false, false, false, false, false, false, false, false, false] rfl rfl (any_of HT_.out (by kernel_rfl)) (fun _ _ _ h => h) (Or.inl ⟨by rfl, ?_⟩) ?_ ?_
                                    rotate_left
                                    · intro w'
                                      go_simp
                                      with_reducible rfl
                                    rotate_left
                                    · simp only [Act.put, List.setIfInBounds_toArray, List.set_cons_zero, List.set_cons_succ, i64_w, i32_w]
                                      rfl
                                    refine pure_ (i := 4) (N := some 43) (v := ?_) (a' := ?_) #[true, true, true, true, true, false, false, false, false, false, false, false, false, false] rfl rfl (any_of HT_.out (by kernel_rfl)) (fun _ _ _ h => h) (Or.inl ⟨by rfl, ?_⟩) ?_ ?_
                                    rotate_left
                                    · intro w'
                                      go_simp
                                      with_reducible rfl
                                    rotate_left
                                    · simp only [Act.put, List.setIfInBounds_toArray, List.set_cons_zero, List.set_cons_succ, i64_w, i32_w]
                                      rfl
                                    refine pure_ (i := 8) (N := some 47) (v := ?_) (a' := ?_) #[true, true, true, true, true, false, false, false, true, false, false, false, false, false] rfl rfl (any_of HT_.out (by kernel_rfl)) (fun _ _ _ h => h) (Or.inl ⟨by rfl, ?_⟩) ?_ ?_
                                    rotate_left
                                    · intro w'
                                      go_simp
                                      with_reducible rfl
                                    rotate_left
                                    · simp only [Act.put, List.setIfInBounds_toArray, List.set_cons_zero, List.set_cons_succ, i64_w, i32_w]
                                      rfl
                                    refine pure_ (i := 9) (N := some 48) (v := ?_) (a' := ?_) #[true, true, true, true, true, false, false, false, true, true, false, false, false, false] rfl rfl (any_of HT_.out (by kernel_rfl)) (fun _ _ _ h => h) (Or.inl ⟨by rfl, ?_⟩) ?_ ?_
                                    rotate_left
                                    · intro w'
                                      go_simp
                                      with_reducible rfl
                                    rotate_left
                                    · simp only [Act.put, List.setIfInBounds_toArray, List.set_cons_zero, List.set_cons_succ, i64_w, i32_w]
                                      rfl
                                    refine pure_ (i := 10) (N := some 49) (v := ?_) (a' := ?_) #[true, true, true, true, true, false, false, false, true, true, true, false, false, false] rfl rfl (any_of HT_.out (by kernel_rfl)) (fun _ _ _ h => h) (Or.inl ⟨by rfl, ?_⟩) ?_ ?_
                                    rotate_left
                                    · intro w'
                                      go_simp
                                      with_reducible rfl
                                    rotate_left
                                    · simp only [Act.put, List.setIfInBounds_toArray, List.set_cons_zero, List.set_cons_succ, i64_w, i32_w]
                                      rfl
                                    refine pure_ (i := 11) (N := some 50) (v := ?_) (a' := ?_) #[true, true, true, true, true, false, false, false, true, true, true, true, false, false] rfl rfl (any_of HT_.out (by kernel_rfl)) (fun _ _ _ h => h) (Or.inl ⟨by rfl, ?_⟩) ?_ ?_
                                    rotate_left
                                    · intro w'
                                      go_simp
                                      with_reducible rfl
                                    rotate_left
                                    · simp only [Act.put, List.setIfInBounds_toArray, List.set_cons_zero, List.set_cons_succ, i64_w, i32_w]
                                      rfl
                                    refine one_ (i := 5) (N := some 44) #[true, true, true, true, true, true, false, false, true, true, true, true, false, false] rfl rfl (one_of HT_.out (by kernel_rfl)) (by decide) (fun K hK => ?_)
                                    refine Kd.R_lit_step (Kd.int .u8) _ 5 ?hg (N := 44) ?hd (xs := ([((bt (rdOf ByteArray.empty t138 (ji6)) (ji14)) - 32) % 256] : List Int)) (inner := [.int .u8 (((bt (rdOf ByteArray.empty t138 (ji6)) (ji14)) - 32) % 256)]) (ok := fun _ => True) (okp := fun _ => True) ?hr ?hp (fun _ hk => hk) trivial (Below.refl _ _) (Nat.le_refl _) (by simp) ?_; (case hd => rfl); (case hg => rfl); (case hr => first | (go_simp; done) | (go_simp; rfl)); (case hp => exact (Reps.one (show Kd.M (Kd.int .u8) _ _ _ (((bt (rdOf ByteArray.empty t138 (ji6)) (ji14)) - 32) % 256) [.int .u8 (((bt (rdOf ByteArray.empty t138 (ji6)) (ji14)) - 32) % 256)] from rfl) (Reps.none _ _)))
                                    intro v143 w66 ho67 hb hg_ hnew_
                                    clear hg_ hnew_
                                    (first | rw [← Ny142.out] at ho67 | (simp only [Int.reduceToNat] at ho67; rw [← Ny142.out] at ho67))
                                    have n0_ := Aside0.mk (Kd.R_lower ho67 (below_size (by repeat (first | (with_reducible first | exact HB.out | apply below_alloc | apply pw_below_drewN | apply below_drew1) | exact HB.out))))
                                    have n1_ := Aside0.mk (below_step (by repeat (first | (with_reducible first | exact HB.out | apply below_alloc | apply pw_below_drewN | apply below_drew1) | exact HB.out)) hb)
                                    clear HB
                                    have HO144 := n0_
                                    have HB := n1_
                                    clear n0_ n1_
                                    clear hb ho67
                                    refine hK.out _ _ trivial (fun hHeld => ?_)
                                    clear hK K
                                    refine norm_ (a' := ?_) ?_ ?_
                                    rotate_left
                                    · show Act.put _ (some 44) _ = _
                                      simp only [Act.put, List.setIfInBounds_toArray, List.set_cons_zero, List.set_cons_succ, i64_w, i32_w]
                                      rfl
                                    refine one_ (i := 6) (N := some 45) #[true, true, true, true, true, true, true, false, true, true, true, true, false, false] rfl rfl (one_of HT_.out (by kernel_rfl)) (by decide) (fun K hK => ?_)
                                    have hcv68 := own_string (P := Try.prog) Try.underlying30 Try.underlying5 Try.underlying9 (Kd.own_of_R HO144.out)
                                    refine value_ (w1 := ?_) (v := ?_) (by rfl) rfl ?_ ?_
                                    rotate_left 2
                                    · go_simp
                                      constructor
                                      · rfl
                                      · rfl
                                    clear hcv68
                                    refine hK.out _ _ trivial (fun hHeld => ?_)
                                    clear hK K
                                    refine norm_ (a' := ?_) ?_ ?_
                                    rotate_left
                                    · show Act.put _ (some 45) _ = _
                                      simp only [Act.put, List.setIfInBounds_toArray, List.set_cons_zero, List.set_cons_succ, i64_w, i32_w]
                                      rfl
                                    refine pure_ (i := 7) (N := some 46) (v := ?_) (a' := ?_) #[true, true, true, true, true, true, true, true, true, true, true, true, false, false] rfl rfl (any_of HT_.out (by kernel_rfl)) (fun _ _ _ h => h) (Or.inl ⟨by rfl, ?_⟩) ?_ ?_
                                    rotate_left
                                    · intro w'
                                      go_simp
                                      with_reducible rfl
                                    rotate_left
                                    · simp only [Act.put, List.setIfInBounds_toArray, List.set_cons_zero, List.set_cons_succ, i64_w, i32_w]
                                      rfl
                                    refine pure_ (i := 12) (N := some 51) (v := ?_) (a' := ?_) #[true, true, true, true, true, true, true, true, true, true, true, true, true, false] rfl rfl (any_of HT_.out (by kernel_rfl)) (fun _ _ _ h => h) (Or.inl ⟨by rfl, ?_⟩) ?_ ?_
                                    rotate_left
                                    · intro w'
                                      go_simp
                                      with_reducible rfl
                                    rotate_left
                                    · simp only [Act.put, List.setIfInBounds_toArray, List.set_cons_zero, List.set_cons_succ, i64_w, i32_w]
                                      rfl
                                    refine pure_ (i := 13) (N := some 10) (v := ?_) (a' := ?_) #[true, true, true, true, true, true, true, true, true, true, true, true, true, true] rfl rfl (any_of HT_.out (by kernel_rfl)) (fun _ _ _ h => h) (Or.inl ⟨by rfl, ?_⟩) ?_ ?_
                                    rotate_left
                                    · intro w'
                                      go_simp
                                      with_reducible rfl
                                    rotate_left
                                    · simp only [Act.put, List.setIfInBounds_toArray, List.set_cons_zero, List.set_cons_succ, i64_w, i32_w]
                                      rfl
                                    refine done_ (done_of HT_.out (by kernel_rfl)) ?_
                                    try go_wp2
                                    go_ret
                                    exact ⟨by first | rfl | (simp [errW_none, errW_some] <;> rfl) | (simp only [← hji6, ← hji14, ← hji27]; first | rfl | (simp [errW_none, errW_some] <;> rfl)) | (simp [*, errW_none, errW_some] <;> rfl), by repeat (first | (with_reducible first | exact HB.out | apply below_alloc | apply pw_below_drewN | apply below_drew1) | exact HB.out)⟩
                                · rw [if_neg c30] at H
                                  exact absurd H (by simp)
                              · rw [if_neg c29] at H
                                exact absurd H (by simp)
                            · rw [if_neg c28] at H
                              exact absurd H (by simp)
                          · rw [if_neg c26] at H
                            exact absurd H (by simp)
                        · rw [if_neg c25] at H
                          exact absurd H (by simp)
                      · rw [if_neg c24] at H
                        exact absurd H (by simp)
              · rw [if_neg c16] at H
                exact absurd H (by simp)
            · rw [if_neg c15] at H
              exact absurd H (by simp)
      · rw [if_neg c8] at H
        exact absurd H (by simp)
    · rw [if_neg c7] at H
      exact absurd H (by simp)

/-- THE ONE PURE STATEMENT of flaillaw17_KindsCase: yours. -/
def flaillaw17_KindsCase.Pure : Prop := ∀ (a0 : Int) (a1 : Int), (Lit.int .u16 a0).wf = true → (Lit.int .u8 a1).wf = true → ∃ k, flaillaw17_KindsCase.f k a0 a1 = some true
theorem flaillaw17_KindsCase.walk (P : flaillaw17_KindsCase.Pure) (a0 : Int) (a1 : Int) (w : World) (w0 : (Lit.int .u16 a0).wf = true) (w1 : (Lit.int .u8 a1).wf = true) :
    Calls Try.prog 7 #[.int .u16 a0, .int .u8 a1] w fun e w' => e = .returned (.bool true) ∧ Below w.heap.size w w' := by
  obtain ⟨k, h⟩ := P a0 a1 w0 w1
  refine (flaillaw17_KindsCase.calls k a0 a1 true w h).mono ?_
  rintro e w' ⟨rfl, hd⟩
  exact ⟨rfl, hd⟩

end Go.Proofs.Ytccdjphflnghlaa.HKindsCase
