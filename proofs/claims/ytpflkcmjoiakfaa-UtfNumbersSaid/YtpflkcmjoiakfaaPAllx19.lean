-- written by a program of ours, after the kit's print, for this claim (see the notes: handprint)
import Derived.Test.YtpflkcmjoiakfaaPAllx0
import Derived.Test.YtpflkcmjoiakfaaPAllx13
import Derived.Test.YtpflkcmjoiakfaaHand
namespace Go.Proofs.Ytpflkcmjoiakfaa.PAll
open Go.RowKit Go.Proofs.YtpflkcmjoiakfaaW.PrintWords Go.Proofs.YtpflkcmjoiakfaaW.PrintLast Go.Proofs.YtpflkcmjoiakfaaW.PrintMore
attribute [local go_sem] max2_int min2_int max_two min_two max_three min_three max_four min_four   -- for this text's walks alone
set_option linter.unusedVariables false
set_option linter.unusedSimpArgs false

/-! ### flaillaw01_UtfNumbers: function 8 -/
def flaillaw01_UtfNumbers.j0 : Nat → Bool → Int → Int → ByteArray → ByteArray → Bool → Option (Bool)
  | 0, _, _, _, _, _, _ => none
  | k + 1, x5, x6, x7, x8, x9, x35 => if x35 = true then (if x5 = true then (if x8.toList = ([239, 191, 189] : List UInt8) then (some true) else (some (x9.toList == ([239, 191, 189] : List UInt8)))) else (some false)) else (if x6 < 128 then (if x5 = true then (if (x8.size : Int) = 1 then (if ((decide (x6 < x7)) == (Op.bytesLess x8.toList x9.toList)) = true then (some ((x6 == x7) == (x8.toList == x9.toList))) else (some false)) else (some false)) else (some false)) else (if x6 < 2048 then (if x5 = true then (if (x8.size : Int) = 2 then (if ((decide (x6 < x7)) == (Op.bytesLess x8.toList x9.toList)) = true then (some ((x6 == x7) == (x8.toList == x9.toList))) else (some false)) else (some false)) else (some false)) else (if x6 < 65536 then (if x5 = true then (if (x8.size : Int) = 3 then (if ((decide (x6 < x7)) == (Op.bytesLess x8.toList x9.toList)) = true then (some ((x6 == x7) == (x8.toList == x9.toList))) else (some false)) else (some false)) else (some false)) else (if x5 = true then (if (x8.size : Int) = 4 then (if ((decide (x6 < x7)) == (Op.bytesLess x8.toList x9.toList)) = true then (some ((x6 == x7) == (x8.toList == x9.toList))) else (some false)) else (some false)) else (some false)))))
def flaillaw01_UtfNumbers.f (k : Nat) (a0 : Int) (a1 : Int) : Option (Bool) := (flaillaw01_awake.f).bind fun t215 => ((utf_Sign.f (wrap64 (Int.tmod a0 1114112))).bind fun t216 => ((utf_Sign.f (wrap64 (Int.tmod a1 1114112))).bind fun t217 => (if (wrap64 (Int.tmod a0 1114112)) ≥ 55296 then (if (wrap64 (Int.tmod a0 1114112)) ≤ 57343 then (flaillaw01_UtfNumbers.j0 k t215 (wrap64 (Int.tmod a0 1114112)) (wrap64 (Int.tmod a1 1114112)) t216 t217 true) else (if (wrap64 (Int.tmod a1 1114112)) ≥ 55296 then (flaillaw01_UtfNumbers.j0 k t215 (wrap64 (Int.tmod a0 1114112)) (wrap64 (Int.tmod a1 1114112)) t216 t217 (decide ((wrap64 (Int.tmod a1 1114112)) ≤ 57343))) else (flaillaw01_UtfNumbers.j0 k t215 (wrap64 (Int.tmod a0 1114112)) (wrap64 (Int.tmod a1 1114112)) t216 t217 false))) else (if (wrap64 (Int.tmod a1 1114112)) ≥ 55296 then (flaillaw01_UtfNumbers.j0 k t215 (wrap64 (Int.tmod a0 1114112)) (wrap64 (Int.tmod a1 1114112)) t216 t217 (decide ((wrap64 (Int.tmod a1 1114112)) ≤ 57343))) else (flaillaw01_UtfNumbers.j0 k t215 (wrap64 (Int.tmod a0 1114112)) (wrap64 (Int.tmod a1 1114112)) t216 t217 false)))))
theorem flaillaw01_UtfNumbers.mono_l : ∀ k, (∀ y0 y1 y2 y3 y4 y5, LeO (flaillaw01_UtfNumbers.j0 k y0 y1 y2 y3 y4 y5) (flaillaw01_UtfNumbers.j0 (k + 1) y0 y1 y2 y3 y4 y5))
  | 0 => fun _ _ _ _ _ _ r h => by simp [flaillaw01_UtfNumbers.j0] at h
  | k + 1 => by
    have ih0 := flaillaw01_UtfNumbers.mono_l k
    · intro y0 y1 y2 y3 y4 y5
      unfold flaillaw01_UtfNumbers.j0
      repeat' first
      | (with_reducible exact ih0 _ _ _ _ _ _)
      | (with_reducible exact LeO.refl _)
      | (with_reducible exact LeO.none _)
      | (with_reducible refine LeO.ite ?_ ?_)
      | (with_reducible refine LeO.bind ?_ (fun _ => ?_))
      | exact ih0 _ _ _ _ _ _
      | exact LeO.none _
      | refine LeO.ite ?_ ?_
      | refine LeO.bind ?_ (fun _ => ?_)
theorem flaillaw01_UtfNumbers.mono : ∀ a0 a1 k, LeO (flaillaw01_UtfNumbers.f k a0 a1) (flaillaw01_UtfNumbers.f (k + 1) a0 a1) := by
  intro a0 a1 k
  have ih0 := flaillaw01_UtfNumbers.mono_l k
  unfold flaillaw01_UtfNumbers.f
  repeat' first
      | (with_reducible exact ih0 _ _ _ _ _ _)
      | (with_reducible exact LeO.refl _)
      | (with_reducible exact LeO.none _)
      | (with_reducible refine LeO.ite ?_ ?_)
      | (with_reducible refine LeO.bind ?_ (fun _ => ?_))
      | exact ih0 _ _ _ _ _ _
      | exact LeO.none _
      | refine LeO.ite ?_ ?_
      | refine LeO.bind ?_ (fun _ => ?_)
set_option maxHeartbeats 8000000 in
set_option maxRecDepth 100000 in
theorem flaillaw01_UtfNumbers.calls (k : Nat) (a0 : Int) (a1 : Int) (r : Bool) (w : World) (h : flaillaw01_UtfNumbers.f k a0 a1 = some r) :
    Calls Try.prog 8 #[.int .u32 a0, .int .u32 a1] w fun e w' => e = .returned (.bool r) ∧ Below w.heap.size w w' := by
  have HB := Aside0.mk (Below.refl w.heap.size w)
  have H : ((flaillaw01_awake.f).bind fun t215 => ((utf_Sign.f (wrap64 (Int.tmod a0 1114112))).bind fun t216 => ((utf_Sign.f (wrap64 (Int.tmod a1 1114112))).bind fun t217 => (if (wrap64 (Int.tmod a0 1114112)) ≥ 55296 then (if (wrap64 (Int.tmod a0 1114112)) ≤ 57343 then (flaillaw01_UtfNumbers.j0 k t215 (wrap64 (Int.tmod a0 1114112)) (wrap64 (Int.tmod a1 1114112)) t216 t217 true) else (if (wrap64 (Int.tmod a1 1114112)) ≥ 55296 then (flaillaw01_UtfNumbers.j0 k t215 (wrap64 (Int.tmod a0 1114112)) (wrap64 (Int.tmod a1 1114112)) t216 t217 (decide ((wrap64 (Int.tmod a1 1114112)) ≤ 57343))) else (flaillaw01_UtfNumbers.j0 k t215 (wrap64 (Int.tmod a0 1114112)) (wrap64 (Int.tmod a1 1114112)) t216 t217 false))) else (if (wrap64 (Int.tmod a1 1114112)) ≥ 55296 then (flaillaw01_UtfNumbers.j0 k t215 (wrap64 (Int.tmod a0 1114112)) (wrap64 (Int.tmod a1 1114112)) t216 t217 (decide ((wrap64 (Int.tmod a1 1114112)) ≤ 57343))) else (flaillaw01_UtfNumbers.j0 k t215 (wrap64 (Int.tmod a0 1114112)) (wrap64 (Int.tmod a1 1114112)) t216 t217 false)))))) = some r := h
  clear h
  replace H := Option.bind_eq_some_iff.mp H
  obtain ⟨t215, A30, H⟩ := H
  replace H : ((utf_Sign.f (wrap64 (Int.tmod a0 1114112))).bind fun t216 => ((utf_Sign.f (wrap64 (Int.tmod a1 1114112))).bind fun t217 => (if (wrap64 (Int.tmod a0 1114112)) ≥ 55296 then (if (wrap64 (Int.tmod a0 1114112)) ≤ 57343 then (flaillaw01_UtfNumbers.j0 k t215 (wrap64 (Int.tmod a0 1114112)) (wrap64 (Int.tmod a1 1114112)) t216 t217 true) else (if (wrap64 (Int.tmod a1 1114112)) ≥ 55296 then (flaillaw01_UtfNumbers.j0 k t215 (wrap64 (Int.tmod a0 1114112)) (wrap64 (Int.tmod a1 1114112)) t216 t217 (decide ((wrap64 (Int.tmod a1 1114112)) ≤ 57343))) else (flaillaw01_UtfNumbers.j0 k t215 (wrap64 (Int.tmod a0 1114112)) (wrap64 (Int.tmod a1 1114112)) t216 t217 false))) else (if (wrap64 (Int.tmod a1 1114112)) ≥ 55296 then (flaillaw01_UtfNumbers.j0 k t215 (wrap64 (Int.tmod a0 1114112)) (wrap64 (Int.tmod a1 1114112)) t216 t217 (decide ((wrap64 (Int.tmod a1 1114112)) ≤ 57343))) else (flaillaw01_UtfNumbers.j0 k t215 (wrap64 (Int.tmod a0 1114112)) (wrap64 (Int.tmod a1 1114112)) t216 t217 false))))) = some r := H
  have A3 := Aside0.mk A30
  clear A30
  replace H := Option.bind_eq_some_iff.mp H
  obtain ⟨t216, A40, H⟩ := H
  replace H : ((utf_Sign.f (wrap64 (Int.tmod a1 1114112))).bind fun t217 => (if (wrap64 (Int.tmod a0 1114112)) ≥ 55296 then (if (wrap64 (Int.tmod a0 1114112)) ≤ 57343 then (flaillaw01_UtfNumbers.j0 k t215 (wrap64 (Int.tmod a0 1114112)) (wrap64 (Int.tmod a1 1114112)) t216 t217 true) else (if (wrap64 (Int.tmod a1 1114112)) ≥ 55296 then (flaillaw01_UtfNumbers.j0 k t215 (wrap64 (Int.tmod a0 1114112)) (wrap64 (Int.tmod a1 1114112)) t216 t217 (decide ((wrap64 (Int.tmod a1 1114112)) ≤ 57343))) else (flaillaw01_UtfNumbers.j0 k t215 (wrap64 (Int.tmod a0 1114112)) (wrap64 (Int.tmod a1 1114112)) t216 t217 false))) else (if (wrap64 (Int.tmod a1 1114112)) ≥ 55296 then (flaillaw01_UtfNumbers.j0 k t215 (wrap64 (Int.tmod a0 1114112)) (wrap64 (Int.tmod a1 1114112)) t216 t217 (decide ((wrap64 (Int.tmod a1 1114112)) ≤ 57343))) else (flaillaw01_UtfNumbers.j0 k t215 (wrap64 (Int.tmod a0 1114112)) (wrap64 (Int.tmod a1 1114112)) t216 t217 false)))) = some r := H
  have A4 := Aside0.mk A40
  clear A40
  replace H := Option.bind_eq_some_iff.mp H
  obtain ⟨t217, A50, H⟩ := H
  replace H : (if (wrap64 (Int.tmod a0 1114112)) ≥ 55296 then (if (wrap64 (Int.tmod a0 1114112)) ≤ 57343 then (flaillaw01_UtfNumbers.j0 k t215 (wrap64 (Int.tmod a0 1114112)) (wrap64 (Int.tmod a1 1114112)) t216 t217 true) else (if (wrap64 (Int.tmod a1 1114112)) ≥ 55296 then (flaillaw01_UtfNumbers.j0 k t215 (wrap64 (Int.tmod a0 1114112)) (wrap64 (Int.tmod a1 1114112)) t216 t217 (decide ((wrap64 (Int.tmod a1 1114112)) ≤ 57343))) else (flaillaw01_UtfNumbers.j0 k t215 (wrap64 (Int.tmod a0 1114112)) (wrap64 (Int.tmod a1 1114112)) t216 t217 false))) else (if (wrap64 (Int.tmod a1 1114112)) ≥ 55296 then (flaillaw01_UtfNumbers.j0 k t215 (wrap64 (Int.tmod a0 1114112)) (wrap64 (Int.tmod a1 1114112)) t216 t217 (decide ((wrap64 (Int.tmod a1 1114112)) ≤ 57343))) else (flaillaw01_UtfNumbers.j0 k t215 (wrap64 (Int.tmod a0 1114112)) (wrap64 (Int.tmod a1 1114112)) t216 t217 false))) = some r := H
  have A5 := Aside0.mk A50
  clear A50
  have HC6 := Aside0.mk H
  clear H
  go_enter Try.func8, Try.ntmps8
  go_upto_region 6 with (first | ((with_reducible refine gate_callee (f := 10) rfl ?_); refine goesL_ (some 11) rfl rfl Try.func10 (by kernel_rfl) rfl #[] rfl (by (try simp only [List.map_toArray, List.map_cons, List.map_nil]); first | done | rfl | (simp only [List.length_drop, List.length_take]; rfl)) ?_; (with_reducible refine (flaillaw01_awake.calls  t215 _ A3.out).mono ?_); rintro e w7 ⟨rfl, hb⟩; refine ⟨_, rfl, ?_⟩; have n0_ := Aside0.mk (below_step (by repeat (first | (with_reducible first | exact HB.out | apply below_alloc | apply pw_below_drewN | apply below_drew1) | exact HB.out)) hb); clear HB; have HB := n0_; clear n0_; (try clear hb); (try clear hb2); (try clear hk); (try clear hi)) | ((with_reducible refine gate_callee (f := 15) rfl ?_); refine goesL_ (some 19) rfl rfl Try.func15 (by kernel_rfl) rfl #[.int .i64 (wrap64 (Int.tmod a0 1114112))] rfl (by (try simp only [List.map_toArray, List.map_cons, List.map_nil]); first | done | rfl | (simp only [List.length_drop, List.length_take]; rfl)) ?_; (with_reducible refine (utf_Sign.calls (wrap64 (Int.tmod a0 1114112)) t216 _ A4.out).mono ?_); rintro e w' ⟨rfl, ⟨nd, rfl⟩⟩; refine ⟨_, rfl, ?_⟩) | ((with_reducible refine gate_callee (f := 15) rfl ?_); refine goesL_ (some 21) rfl rfl Try.func15 (by kernel_rfl) rfl #[.int .i64 (wrap64 (Int.tmod a1 1114112))] rfl (by (try simp only [List.map_toArray, List.map_cons, List.map_nil]); first | done | rfl | (simp only [List.length_drop, List.length_take]; rfl)) ?_; (with_reducible refine (utf_Sign.calls (wrap64 (Int.tmod a1 1114112)) t217 _ A5.out).mono ?_); rintro e w' ⟨rfl, ⟨nd, rfl⟩⟩; refine ⟨_, rfl, ?_⟩))
  (try simp only [Act.put, List.setIfInBounds_toArray, List.set_cons_zero, List.set_cons_succ])
  go_cut [35] (fun v35 wc => ∃ (kq : Nat) (x35_5 : Bool), v35 = .bool x35_5 ∧ Aside0 (flaillaw01_UtfNumbers.j0 kq t215 (wrap64 (Int.tmod a0 1114112)) (wrap64 (Int.tmod a1 1114112)) t216 t217 x35_5 = some r) ∧ Aside0 (kq ≤ k) ∧ Aside0 (Below w.heap.size w wc))
  case first =>
    have H := HC6.out
    clear HC6
    by_cases c8 : (wrap64 (Int.tmod a0 1114112)) ≥ 55296
    · rw [if_pos c8] at H
      have c8b0 : decide (55296 ≤ (wrap64 (Int.tmod a0 1114112))) = true := decide_eq_true c8
      clear c8
      (first | rw [c8b0] | (simp only [i64_w, i32_w]; rw [c8b0]) | skip)
      by_cases c9 : (wrap64 (Int.tmod a0 1114112)) ≤ 57343
      · rw [if_pos c9] at H
        have c9b0 : decide ((wrap64 (Int.tmod a0 1114112)) ≤ 57343) = true := decide_eq_true c9
        clear c9
        have H' := Aside0.mk H
        clear H
        go_wp2
        go_meet
        case rel => exact ⟨_, (true), (by first | rfl | (simp; done) | (simp [*]; done)), H', ⟨by first | omega | exact Nat.le_refl _⟩, ⟨by repeat (first | (with_reducible first | exact HB.out | apply below_alloc | apply pw_below_drewN | apply below_drew1) | exact HB.out)⟩⟩
      · rw [if_neg c9] at H
        have c9b0 : decide ((wrap64 (Int.tmod a0 1114112)) ≤ 57343) = false := decide_eq_false c9
        clear c9
        by_cases c10 : (wrap64 (Int.tmod a1 1114112)) ≥ 55296
        · rw [if_pos c10] at H
          have c10b0 : decide (55296 ≤ (wrap64 (Int.tmod a1 1114112))) = true := decide_eq_true c10
          clear c10
          have H' := Aside0.mk H
          clear H
          go_wp2
          go_meet
          case rel => exact ⟨_, (decide ((wrap64 (Int.tmod a1 1114112)) ≤ 57343)), (by first | rfl | (simp; done) | (simp [*]; done)), H', ⟨by first | omega | exact Nat.le_refl _⟩, ⟨by repeat (first | (with_reducible first | exact HB.out | apply below_alloc | apply pw_below_drewN | apply below_drew1) | exact HB.out)⟩⟩
        · rw [if_neg c10] at H
          have c10b0 : decide (55296 ≤ (wrap64 (Int.tmod a1 1114112))) = false := decide_eq_false c10
          clear c10
          have H' := Aside0.mk H
          clear H
          go_wp2
          go_meet
          case rel => exact ⟨_, (false), (by first | rfl | (simp; done) | (simp [*]; done)), H', ⟨by first | omega | exact Nat.le_refl _⟩, ⟨by repeat (first | (with_reducible first | exact HB.out | apply below_alloc | apply pw_below_drewN | apply below_drew1) | exact HB.out)⟩⟩
    · rw [if_neg c8] at H
      have c8b0 : decide (55296 ≤ (wrap64 (Int.tmod a0 1114112))) = false := decide_eq_false c8
      clear c8
      (first | rw [c8b0] | (simp only [i64_w, i32_w]; rw [c8b0]) | skip)
      by_cases c11 : (wrap64 (Int.tmod a1 1114112)) ≥ 55296
      · rw [if_pos c11] at H
        have c11b0 : decide (55296 ≤ (wrap64 (Int.tmod a1 1114112))) = true := decide_eq_true c11
        clear c11
        have H' := Aside0.mk H
        clear H
        go_wp2
        go_meet
        case rel => exact ⟨_, (decide ((wrap64 (Int.tmod a1 1114112)) ≤ 57343)), (by first | rfl | (simp; done) | (simp [*]; done)), H', ⟨by first | omega | exact Nat.le_refl _⟩, ⟨by repeat (first | (with_reducible first | exact HB.out | apply below_alloc | apply pw_below_drewN | apply below_drew1) | exact HB.out)⟩⟩
      · rw [if_neg c11] at H
        have c11b0 : decide (55296 ≤ (wrap64 (Int.tmod a1 1114112))) = false := decide_eq_false c11
        clear c11
        have H' := Aside0.mk H
        clear H
        go_wp2
        go_meet
        case rel => exact ⟨_, (false), (by first | rfl | (simp; done) | (simp [*]; done)), H', ⟨by first | omega | exact Nat.le_refl _⟩, ⟨by repeat (first | (with_reducible first | exact HB.out | apply below_alloc | apply pw_below_drewN | apply below_drew1) | exact HB.out)⟩⟩
  case rest =>
    clear HC6
    try clear c1
    try clear p2
    try clear p6
    try clear c8
    try clear c8b0
    try clear c9
    try clear c9b0
    try clear c10
    try clear c10b0
    try clear c11
    try clear c11b0
    obtain ⟨kq, x35_5, rfl, HA, HJ5, HB⟩ := hcut
    cases kq with
    | zero => exact absurd HA.out (by simp [flaillaw01_UtfNumbers.j0])
    | succ kj5 =>
      have H := HA.out
      clear HA
      simp only [flaillaw01_UtfNumbers.j0] at H
      by_cases c12 : x35_5 = true
      · subst c12
        have H1 : (if t215 = true then (if t216.toList = ([239, 191, 189] : List UInt8) then (some true) else (some (t217.toList == ([239, 191, 189] : List UInt8)))) else (some false)) = some r := by rw [if_pos rfl] at H; exact H
        clear H
        have H := H1
        clear H1
        by_cases c13 : t215 = true
        · subst c13
          have H1 : (if t216.toList = ([239, 191, 189] : List UInt8) then (some true) else (some (t217.toList == ([239, 191, 189] : List UInt8)))) = some r := by rw [if_pos rfl] at H; exact H
          clear H
          have H := H1
          clear H1
          by_cases c14 : t216.toList = ([239, 191, 189] : List UInt8)
          · rw [if_pos c14] at H
            have c14b0 : (t216.toList == ([239, 191, 189] : List UInt8)) = true := beq_iff_eq.mpr c14
            have c14b1 : (t216.toList != ([239, 191, 189] : List UInt8)) = false := bne_eq_false_iff_eq.mpr c14
            clear c14
            obtain rfl := Option.some.inj H
            go_wp2
            go_ret
            exact ⟨by first | rfl | (simp [errW_none, errW_some] <;> rfl) | (simp [*, errW_none, errW_some] <;> rfl), by repeat (first | (with_reducible first | exact HB.out | apply below_alloc | apply pw_below_drewN | apply below_drew1) | exact HB.out)⟩
          · rw [if_neg c14] at H
            have c14b0 : (t216.toList == ([239, 191, 189] : List UInt8)) = false := beq_eq_false_iff_ne.mpr c14
            have c14b1 : (t216.toList != ([239, 191, 189] : List UInt8)) = true := bne_iff_ne.mpr c14
            obtain rfl := Option.some.inj H
            go_wp2
            go_ret
            exact ⟨by first | rfl | (simp [errW_none, errW_some] <;> rfl) | (simp [*, errW_none, errW_some] <;> rfl), by repeat (first | (with_reducible first | exact HB.out | apply below_alloc | apply pw_below_drewN | apply below_drew1) | exact HB.out)⟩
        · replace c13 := Bool.eq_false_iff.mpr c13
          subst c13
          have H1 : (some false) = some r := by rw [if_neg (show ¬ (false = true) by decide)] at H; exact H
          clear H
          have H := H1
          clear H1
          obtain rfl := Option.some.inj H
          go_wp2
          go_ret
          exact ⟨by first | rfl | (simp [errW_none, errW_some] <;> rfl) | (simp [*, errW_none, errW_some] <;> rfl), by repeat (first | (with_reducible first | exact HB.out | apply below_alloc | apply pw_below_drewN | apply below_drew1) | exact HB.out)⟩
      · replace c12 := Bool.eq_false_iff.mpr c12
        subst c12
        have H1 : (if (wrap64 (Int.tmod a0 1114112)) < 128 then (if t215 = true then (if (t216.size : Int) = 1 then (if ((decide ((wrap64 (Int.tmod a0 1114112)) < (wrap64 (Int.tmod a1 1114112)))) == (Op.bytesLess t216.toList t217.toList)) = true then (some (((wrap64 (Int.tmod a0 1114112)) == (wrap64 (Int.tmod a1 1114112))) == (t216.toList == t217.toList))) else (some false)) else (some false)) else (some false)) else (if (wrap64 (Int.tmod a0 1114112)) < 2048 then (if t215 = true then (if (t216.size : Int) = 2 then (if ((decide ((wrap64 (Int.tmod a0 1114112)) < (wrap64 (Int.tmod a1 1114112)))) == (Op.bytesLess t216.toList t217.toList)) = true then (some (((wrap64 (Int.tmod a0 1114112)) == (wrap64 (Int.tmod a1 1114112))) == (t216.toList == t217.toList))) else (some false)) else (some false)) else (some false)) else (if (wrap64 (Int.tmod a0 1114112)) < 65536 then (if t215 = true then (if (t216.size : Int) = 3 then (if ((decide ((wrap64 (Int.tmod a0 1114112)) < (wrap64 (Int.tmod a1 1114112)))) == (Op.bytesLess t216.toList t217.toList)) = true then (some (((wrap64 (Int.tmod a0 1114112)) == (wrap64 (Int.tmod a1 1114112))) == (t216.toList == t217.toList))) else (some false)) else (some false)) else (some false)) else (if t215 = true then (if (t216.size : Int) = 4 then (if ((decide ((wrap64 (Int.tmod a0 1114112)) < (wrap64 (Int.tmod a1 1114112)))) == (Op.bytesLess t216.toList t217.toList)) = true then (some (((wrap64 (Int.tmod a0 1114112)) == (wrap64 (Int.tmod a1 1114112))) == (t216.toList == t217.toList))) else (some false)) else (some false)) else (some false))))) = some r := by rw [if_neg (show ¬ (false = true) by decide)] at H; exact H
        clear H
        have H := H1
        clear H1
        by_cases c15 : (wrap64 (Int.tmod a0 1114112)) < 128
        · rw [if_pos c15] at H
          have c15b0 : decide ((wrap64 (Int.tmod a0 1114112)) < 128) = true := decide_eq_true c15
          clear c15
          by_cases c16 : t215 = true
          · subst c16
            have H1 : (if (t216.size : Int) = 1 then (if ((decide ((wrap64 (Int.tmod a0 1114112)) < (wrap64 (Int.tmod a1 1114112)))) == (Op.bytesLess t216.toList t217.toList)) = true then (some (((wrap64 (Int.tmod a0 1114112)) == (wrap64 (Int.tmod a1 1114112))) == (t216.toList == t217.toList))) else (some false)) else (some false)) = some r := by rw [if_pos rfl] at H; exact H
            clear H
            have H := H1
            clear H1
            by_cases c17 : (t216.size : Int) = 1
            · rw [if_pos c17] at H
              have c17b0 : ((t216.size : Int) == 1) = true := beq_iff_eq.mpr c17
              have c17b1 : ((t216.size : Int) != 1) = false := bne_eq_false_iff_eq.mpr c17
              clear c17
              by_cases c18 : ((decide ((wrap64 (Int.tmod a0 1114112)) < (wrap64 (Int.tmod a1 1114112)))) == (Op.bytesLess t216.toList t217.toList)) = true
              · rw [if_pos c18] at H
                have c18b0 : ((decide ((wrap64 (Int.tmod a0 1114112)) < (wrap64 (Int.tmod a1 1114112)))) == (Op.bytesLess t216.toList t217.toList)) = true := c18
                (try (have c18b1 : decide ((decide ((wrap64 (Int.tmod a0 1114112)) < (wrap64 (Int.tmod a1 1114112)))) = (Op.bytesLess t216.toList t217.toList)) = true := by simpa using c18))
                (try (have c18b2 : ((decide ((wrap64 (Int.tmod a0 1114112)) < (wrap64 (Int.tmod a1 1114112)))) == (Op.bytesLess t216.toList t217.toList)) = true := by simpa using c18))
                clear c18
                obtain rfl := Option.some.inj H
                go_wp2
                go_ret
                exact ⟨by first | rfl | (simp [errW_none, errW_some] <;> rfl) | (simp [*, errW_none, errW_some] <;> rfl), by repeat (first | (with_reducible first | exact HB.out | apply below_alloc | apply pw_below_drewN | apply below_drew1) | exact HB.out)⟩
              · rw [if_neg c18] at H
                have c18b0 : ((decide ((wrap64 (Int.tmod a0 1114112)) < (wrap64 (Int.tmod a1 1114112)))) == (Op.bytesLess t216.toList t217.toList)) = false := by simpa using c18
                (try (have c18b1 : decide ((decide ((wrap64 (Int.tmod a0 1114112)) < (wrap64 (Int.tmod a1 1114112)))) = (Op.bytesLess t216.toList t217.toList)) = false := by simpa using c18))
                (try (have c18b2 : ((decide ((wrap64 (Int.tmod a0 1114112)) < (wrap64 (Int.tmod a1 1114112)))) == (Op.bytesLess t216.toList t217.toList)) = false := by simpa using c18))
                (try (have c18b3 : ¬ ((decide ((wrap64 (Int.tmod a0 1114112)) < (wrap64 (Int.tmod a1 1114112)))) = (Op.bytesLess t216.toList t217.toList)) := by simpa using c18))
                clear c18
                obtain rfl := Option.some.inj H
                go_wp2
                go_ret
                exact ⟨by first | rfl | (simp [errW_none, errW_some] <;> rfl) | (simp [*, errW_none, errW_some] <;> rfl), by repeat (first | (with_reducible first | exact HB.out | apply below_alloc | apply pw_below_drewN | apply below_drew1) | exact HB.out)⟩
            · rw [if_neg c17] at H
              have c17b0 : ((t216.size : Int) == 1) = false := beq_eq_false_iff_ne.mpr c17
              have c17b1 : ((t216.size : Int) != 1) = true := bne_iff_ne.mpr c17
              obtain rfl := Option.some.inj H
              go_wp2
              go_ret
              exact ⟨by first | rfl | (simp [errW_none, errW_some] <;> rfl) | (simp [*, errW_none, errW_some] <;> rfl), by repeat (first | (with_reducible first | exact HB.out | apply below_alloc | apply pw_below_drewN | apply below_drew1) | exact HB.out)⟩
          · replace c16 := Bool.eq_false_iff.mpr c16
            subst c16
            have H1 : (some false) = some r := by rw [if_neg (show ¬ (false = true) by decide)] at H; exact H
            clear H
            have H := H1
            clear H1
            obtain rfl := Option.some.inj H
            go_wp2
            go_ret
            exact ⟨by first | rfl | (simp [errW_none, errW_some] <;> rfl) | (simp [*, errW_none, errW_some] <;> rfl), by repeat (first | (with_reducible first | exact HB.out | apply below_alloc | apply pw_below_drewN | apply below_drew1) | exact HB.out)⟩
        · rw [if_neg c15] at H
          have c15b0 : decide ((wrap64 (Int.tmod a0 1114112)) < 128) = false := decide_eq_false c15
          clear c15
          by_cases c19 : (wrap64 (Int.tmod a0 1114112)) < 2048
          · rw [if_pos c19] at H
            have c19b0 : decide ((wrap64 (Int.tmod a0 1114112)) < 2048) = true := decide_eq_true c19
            clear c19
            by_cases c20 : t215 = true
            · subst c20
              have H1 : (if (t216.size : Int) = 2 then (if ((decide ((wrap64 (Int.tmod a0 1114112)) < (wrap64 (Int.tmod a1 1114112)))) == (Op.bytesLess t216.toList t217.toList)) = true then (some (((wrap64 (Int.tmod a0 1114112)) == (wrap64 (Int.tmod a1 1114112))) == (t216.toList == t217.toList))) else (some false)) else (some false)) = some r := by rw [if_pos rfl] at H; exact H
              clear H
              have H := H1
              clear H1
              by_cases c21 : (t216.size : Int) = 2
              · rw [if_pos c21] at H
                have c21b0 : ((t216.size : Int) == 2) = true := beq_iff_eq.mpr c21
                have c21b1 : ((t216.size : Int) != 2) = false := bne_eq_false_iff_eq.mpr c21
                clear c21
                by_cases c22 : ((decide ((wrap64 (Int.tmod a0 1114112)) < (wrap64 (Int.tmod a1 1114112)))) == (Op.bytesLess t216.toList t217.toList)) = true
                · rw [if_pos c22] at H
                  have c22b0 : ((decide ((wrap64 (Int.tmod a0 1114112)) < (wrap64 (Int.tmod a1 1114112)))) == (Op.bytesLess t216.toList t217.toList)) = true := c22
                  (try (have c22b1 : decide ((decide ((wrap64 (Int.tmod a0 1114112)) < (wrap64 (Int.tmod a1 1114112)))) = (Op.bytesLess t216.toList t217.toList)) = true := by simpa using c22))
                  (try (have c22b2 : ((decide ((wrap64 (Int.tmod a0 1114112)) < (wrap64 (Int.tmod a1 1114112)))) == (Op.bytesLess t216.toList t217.toList)) = true := by simpa using c22))
                  clear c22
                  obtain rfl := Option.some.inj H
                  go_wp2
                  go_ret
                  exact ⟨by first | rfl | (simp [errW_none, errW_some] <;> rfl) | (simp [*, errW_none, errW_some] <;> rfl), by repeat (first | (with_reducible first | exact HB.out | apply below_alloc | apply pw_below_drewN | apply below_drew1) | exact HB.out)⟩
                · rw [if_neg c22] at H
                  have c22b0 : ((decide ((wrap64 (Int.tmod a0 1114112)) < (wrap64 (Int.tmod a1 1114112)))) == (Op.bytesLess t216.toList t217.toList)) = false := by simpa using c22
                  (try (have c22b1 : decide ((decide ((wrap64 (Int.tmod a0 1114112)) < (wrap64 (Int.tmod a1 1114112)))) = (Op.bytesLess t216.toList t217.toList)) = false := by simpa using c22))
                  (try (have c22b2 : ((decide ((wrap64 (Int.tmod a0 1114112)) < (wrap64 (Int.tmod a1 1114112)))) == (Op.bytesLess t216.toList t217.toList)) = false := by simpa using c22))
                  (try (have c22b3 : ¬ ((decide ((wrap64 (Int.tmod a0 1114112)) < (wrap64 (Int.tmod a1 1114112)))) = (Op.bytesLess t216.toList t217.toList)) := by simpa using c22))
                  clear c22
                  obtain rfl := Option.some.inj H
                  go_wp2
                  go_ret
                  exact ⟨by first | rfl | (simp [errW_none, errW_some] <;> rfl) | (simp [*, errW_none, errW_some] <;> rfl), by repeat (first | (with_reducible first | exact HB.out | apply below_alloc | apply pw_below_drewN | apply below_drew1) | exact HB.out)⟩
              · rw [if_neg c21] at H
                have c21b0 : ((t216.size : Int) == 2) = false := beq_eq_false_iff_ne.mpr c21
                have c21b1 : ((t216.size : Int) != 2) = true := bne_iff_ne.mpr c21
                obtain rfl := Option.some.inj H
                go_wp2
                go_ret
                exact ⟨by first | rfl | (simp [errW_none, errW_some] <;> rfl) | (simp [*, errW_none, errW_some] <;> rfl), by repeat (first | (with_reducible first | exact HB.out | apply below_alloc | apply pw_below_drewN | apply below_drew1) | exact HB.out)⟩
            · replace c20 := Bool.eq_false_iff.mpr c20
              subst c20
              have H1 : (some false) = some r := by rw [if_neg (show ¬ (false = true) by decide)] at H; exact H
              clear H
              have H := H1
              clear H1
              obtain rfl := Option.some.inj H
              go_wp2
              go_ret
              exact ⟨by first | rfl | (simp [errW_none, errW_some] <;> rfl) | (simp [*, errW_none, errW_some] <;> rfl), by repeat (first | (with_reducible first | exact HB.out | apply below_alloc | apply pw_below_drewN | apply below_drew1) | exact HB.out)⟩
          · rw [if_neg c19] at H
            have c19b0 : decide ((wrap64 (Int.tmod a0 1114112)) < 2048) = false := decide_eq_false c19
            clear c19
            by_cases c23 : (wrap64 (Int.tmod a0 1114112)) < 65536
            · rw [if_pos c23] at H
              have c23b0 : decide ((wrap64 (Int.tmod a0 1114112)) < 65536) = true := decide_eq_true c23
              clear c23
              by_cases c24 : t215 = true
              · subst c24
                have H1 : (if (t216.size : Int) = 3 then (if ((decide ((wrap64 (Int.tmod a0 1114112)) < (wrap64 (Int.tmod a1 1114112)))) == (Op.bytesLess t216.toList t217.toList)) = true then (some (((wrap64 (Int.tmod a0 1114112)) == (wrap64 (Int.tmod a1 1114112))) == (t216.toList == t217.toList))) else (some false)) else (some false)) = some r := by rw [if_pos rfl] at H; exact H
                clear H
                have H := H1
                clear H1
                by_cases c25 : (t216.size : Int) = 3
                · rw [if_pos c25] at H
                  have c25b0 : ((t216.size : Int) == 3) = true := beq_iff_eq.mpr c25
                  have c25b1 : ((t216.size : Int) != 3) = false := bne_eq_false_iff_eq.mpr c25
                  clear c25
                  by_cases c26 : ((decide ((wrap64 (Int.tmod a0 1114112)) < (wrap64 (Int.tmod a1 1114112)))) == (Op.bytesLess t216.toList t217.toList)) = true
                  · rw [if_pos c26] at H
                    have c26b0 : ((decide ((wrap64 (Int.tmod a0 1114112)) < (wrap64 (Int.tmod a1 1114112)))) == (Op.bytesLess t216.toList t217.toList)) = true := c26
                    (try (have c26b1 : decide ((decide ((wrap64 (Int.tmod a0 1114112)) < (wrap64 (Int.tmod a1 1114112)))) = (Op.bytesLess t216.toList t217.toList)) = true := by simpa using c26))
                    (try (have c26b2 : ((decide ((wrap64 (Int.tmod a0 1114112)) < (wrap64 (Int.tmod a1 1114112)))) == (Op.bytesLess t216.toList t217.toList)) = true := by simpa using c26))
                    clear c26
                    obtain rfl := Option.some.inj H
                    go_wp2
                    go_ret
                    exact ⟨by first | rfl | (simp [errW_none, errW_some] <;> rfl) | (simp [*, errW_none, errW_some] <;> rfl), by repeat (first | (with_reducible first | exact HB.out | apply below_alloc | apply pw_below_drewN | apply below_drew1) | exact HB.out)⟩
                  · rw [if_neg c26] at H
                    have c26b0 : ((decide ((wrap64 (Int.tmod a0 1114112)) < (wrap64 (Int.tmod a1 1114112)))) == (Op.bytesLess t216.toList t217.toList)) = false := by simpa using c26
                    (try (have c26b1 : decide ((decide ((wrap64 (Int.tmod a0 1114112)) < (wrap64 (Int.tmod a1 1114112)))) = (Op.bytesLess t216.toList t217.toList)) = false := by simpa using c26))
                    (try (have c26b2 : ((decide ((wrap64 (Int.tmod a0 1114112)) < (wrap64 (Int.tmod a1 1114112)))) == (Op.bytesLess t216.toList t217.toList)) = false := by simpa using c26))
                    (try (have c26b3 : ¬ ((decide ((wrap64 (Int.tmod a0 1114112)) < (wrap64 (Int.tmod a1 1114112)))) = (Op.bytesLess t216.toList t217.toList)) := by simpa using c26))
                    clear c26
                    obtain rfl := Option.some.inj H
                    go_wp2
                    go_ret
                    exact ⟨by first | rfl | (simp [errW_none, errW_some] <;> rfl) | (simp [*, errW_none, errW_some] <;> rfl), by repeat (first | (with_reducible first | exact HB.out | apply below_alloc | apply pw_below_drewN | apply below_drew1) | exact HB.out)⟩
                · rw [if_neg c25] at H
                  have c25b0 : ((t216.size : Int) == 3) = false := beq_eq_false_iff_ne.mpr c25
                  have c25b1 : ((t216.size : Int) != 3) = true := bne_iff_ne.mpr c25
                  obtain rfl := Option.some.inj H
                  go_wp2
                  go_ret
                  exact ⟨by first | rfl | (simp [errW_none, errW_some] <;> rfl) | (simp [*, errW_none, errW_some] <;> rfl), by repeat (first | (with_reducible first | exact HB.out | apply below_alloc | apply pw_below_drewN | apply below_drew1) | exact HB.out)⟩
              · replace c24 := Bool.eq_false_iff.mpr c24
                subst c24
                have H1 : (some false) = some r := by rw [if_neg (show ¬ (false = true) by decide)] at H; exact H
                clear H
                have H := H1
                clear H1
                obtain rfl := Option.some.inj H
                go_wp2
                go_ret
                exact ⟨by first | rfl | (simp [errW_none, errW_some] <;> rfl) | (simp [*, errW_none, errW_some] <;> rfl), by repeat (first | (with_reducible first | exact HB.out | apply below_alloc | apply pw_below_drewN | apply below_drew1) | exact HB.out)⟩
            · rw [if_neg c23] at H
              have c23b0 : decide ((wrap64 (Int.tmod a0 1114112)) < 65536) = false := decide_eq_false c23
              clear c23
              by_cases c27 : t215 = true
              · subst c27
                have H1 : (if (t216.size : Int) = 4 then (if ((decide ((wrap64 (Int.tmod a0 1114112)) < (wrap64 (Int.tmod a1 1114112)))) == (Op.bytesLess t216.toList t217.toList)) = true then (some (((wrap64 (Int.tmod a0 1114112)) == (wrap64 (Int.tmod a1 1114112))) == (t216.toList == t217.toList))) else (some false)) else (some false)) = some r := by rw [if_pos rfl] at H; exact H
                clear H
                have H := H1
                clear H1
                by_cases c28 : (t216.size : Int) = 4
                · rw [if_pos c28] at H
                  have c28b0 : ((t216.size : Int) == 4) = true := beq_iff_eq.mpr c28
                  have c28b1 : ((t216.size : Int) != 4) = false := bne_eq_false_iff_eq.mpr c28
                  clear c28
                  by_cases c29 : ((decide ((wrap64 (Int.tmod a0 1114112)) < (wrap64 (Int.tmod a1 1114112)))) == (Op.bytesLess t216.toList t217.toList)) = true
                  · rw [if_pos c29] at H
                    have c29b0 : ((decide ((wrap64 (Int.tmod a0 1114112)) < (wrap64 (Int.tmod a1 1114112)))) == (Op.bytesLess t216.toList t217.toList)) = true := c29
                    (try (have c29b1 : decide ((decide ((wrap64 (Int.tmod a0 1114112)) < (wrap64 (Int.tmod a1 1114112)))) = (Op.bytesLess t216.toList t217.toList)) = true := by simpa using c29))
                    (try (have c29b2 : ((decide ((wrap64 (Int.tmod a0 1114112)) < (wrap64 (Int.tmod a1 1114112)))) == (Op.bytesLess t216.toList t217.toList)) = true := by simpa using c29))
                    clear c29
                    obtain rfl := Option.some.inj H
                    go_wp2
                    go_ret
                    exact ⟨by first | rfl | (simp [errW_none, errW_some] <;> rfl) | (simp [*, errW_none, errW_some] <;> rfl), by repeat (first | (with_reducible first | exact HB.out | apply below_alloc | apply pw_below_drewN | apply below_drew1) | exact HB.out)⟩
                  · rw [if_neg c29] at H
                    have c29b0 : ((decide ((wrap64 (Int.tmod a0 1114112)) < (wrap64 (Int.tmod a1 1114112)))) == (Op.bytesLess t216.toList t217.toList)) = false := by simpa using c29
                    (try (have c29b1 : decide ((decide ((wrap64 (Int.tmod a0 1114112)) < (wrap64 (Int.tmod a1 1114112)))) = (Op.bytesLess t216.toList t217.toList)) = false := by simpa using c29))
                    (try (have c29b2 : ((decide ((wrap64 (Int.tmod a0 1114112)) < (wrap64 (Int.tmod a1 1114112)))) == (Op.bytesLess t216.toList t217.toList)) = false := by simpa using c29))
                    (try (have c29b3 : ¬ ((decide ((wrap64 (Int.tmod a0 1114112)) < (wrap64 (Int.tmod a1 1114112)))) = (Op.bytesLess t216.toList t217.toList)) := by simpa using c29))
                    clear c29
                    obtain rfl := Option.some.inj H
                    go_wp2
                    go_ret
                    exact ⟨by first | rfl | (simp [errW_none, errW_some] <;> rfl) | (simp [*, errW_none, errW_some] <;> rfl), by repeat (first | (with_reducible first | exact HB.out | apply below_alloc | apply pw_below_drewN | apply below_drew1) | exact HB.out)⟩
                · rw [if_neg c28] at H
                  have c28b0 : ((t216.size : Int) == 4) = false := beq_eq_false_iff_ne.mpr c28
                  have c28b1 : ((t216.size : Int) != 4) = true := bne_iff_ne.mpr c28
                  obtain rfl := Option.some.inj H
                  go_wp2
                  go_ret
                  exact ⟨by first | rfl | (simp [errW_none, errW_some] <;> rfl) | (simp [*, errW_none, errW_some] <;> rfl), by repeat (first | (with_reducible first | exact HB.out | apply below_alloc | apply pw_below_drewN | apply below_drew1) | exact HB.out)⟩
              · replace c27 := Bool.eq_false_iff.mpr c27
                subst c27
                have H1 : (some false) = some r := by rw [if_neg (show ¬ (false = true) by decide)] at H; exact H
                clear H
                have H := H1
                clear H1
                obtain rfl := Option.some.inj H
                go_wp2
                go_ret
                exact ⟨by first | rfl | (simp [errW_none, errW_some] <;> rfl) | (simp [*, errW_none, errW_some] <;> rfl), by repeat (first | (with_reducible first | exact HB.out | apply below_alloc | apply pw_below_drewN | apply below_drew1) | exact HB.out)⟩

/-- THE ONE PURE STATEMENT of flaillaw01_UtfNumbers: yours. -/
def flaillaw01_UtfNumbers.Pure : Prop := ∀ (a0 : Int) (a1 : Int), (Lit.int .u32 a0).wf = true → (Lit.int .u32 a1).wf = true → ∃ k, flaillaw01_UtfNumbers.f k a0 a1 = some true
theorem flaillaw01_UtfNumbers.walk (P : flaillaw01_UtfNumbers.Pure) (a0 : Int) (a1 : Int) (w : World) (w0 : (Lit.int .u32 a0).wf = true) (w1 : (Lit.int .u32 a1).wf = true) :
    Calls Try.prog 8 #[.int .u32 a0, .int .u32 a1] w fun e w' => e = .returned (.bool true) ∧ Below w.heap.size w w' := by
  obtain ⟨k, h⟩ := P a0 a1 w0 w1
  refine (flaillaw01_UtfNumbers.calls k a0 a1 true w h).mono ?_
  rintro e w' ⟨rfl, hd⟩
  exact ⟨rfl, hd⟩

end Go.Proofs.Ytpflkcmjoiakfaa.PAll
