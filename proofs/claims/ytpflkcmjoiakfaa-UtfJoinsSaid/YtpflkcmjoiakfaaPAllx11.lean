-- written by a program of ours, after the kit's print, for this claim (see the notes: handprint)
import Derived.Test.YtpflkcmjoiakfaaPAllx0
import Derived.Test.YtpflkcmjoiakfaaPAllx10
namespace Go.Proofs.Ytpflkcmjoiakfaa.PAll
open Go.RowKit Go.Proofs.YtpflkcmjoiakfaaW.PrintWords Go.Proofs.YtpflkcmjoiakfaaW.PrintLast Go.Proofs.YtpflkcmjoiakfaaW.PrintMore
attribute [local go_sem] max2_int min2_int max_two min_two max_three min_three max_four min_four   -- for this text's walks alone
set_option linter.unusedVariables false
set_option linter.unusedSimpArgs false

/-! ### flailref01_Decode: function 12 -/
mutual
def flailref01_Decode.j0 : Nat → List Int → Option (ByteArray)
  | 0, _ => none
  | k + 1, x0 => flailref01_Decode.l0 k x0 (⟨#[]⟩ : ByteArray)
def flailref01_Decode.l0 : Nat → List Int → ByteArray → Option (ByteArray)
  | 0, _, _ => none
  | k + 1, x0, x3 => if (x0.length : Int) > 0 then ((flailref01_first.f k x0).bind fun bt156 => (if bt156.2 = true then (if 0 ≤ bt156.1 then (if bt156.1 ≤ (x0.length : Int) then ((some (x0.take (bt156.1 : Int).toNat : List Int)).bind fun y158 => (if x3.size + (strOfNums y158).size ≤ 9223372036854775807 then (flailref01_Decode.l0 k (x0.drop (bt156.1 : Int).toNat) (x3 ++ (strOfNums y158))) else (none))) else (none)) else (none)) else (if x3.size + 3 ≤ 9223372036854775807 then (if 0 ≤ bt156.1 then (if bt156.1 ≤ (x0.length : Int) then (flailref01_Decode.l0 k (x0.drop (bt156.1 : Int).toNat) (x3 ++ (⟨#[239, 191, 189]⟩ : ByteArray))) else (none)) else (none)) else (none)))) else (some x3)
end
def flailref01_Decode.f (k : Nat) (l0 : List Int) : Option (ByteArray) := if (l0.length : Int) ≥ 3 then (if 0 < (l0.length : Int) then (if (rd l0 0) = 239 then (if 1 < (l0.length : Int) then (if (rd l0 1) = 187 then (if 2 < (l0.length : Int) then (if (rd l0 2) = 191 then (if 3 ≤ (l0.length : Int) then (flailref01_Decode.j0 k (l0.drop 3)) else (none)) else (flailref01_Decode.j0 k l0)) else (none)) else (flailref01_Decode.j0 k l0)) else (none)) else (flailref01_Decode.j0 k l0)) else (none)) else (flailref01_Decode.j0 k l0)
theorem flailref01_Decode.mono_l : ∀ k, (∀ y0, LeO (flailref01_Decode.j0 k y0) (flailref01_Decode.j0 (k + 1) y0)) ∧ (∀ y0 y1, LeO (flailref01_Decode.l0 k y0 y1) (flailref01_Decode.l0 (k + 1) y0 y1))
  | 0 => ⟨fun _ r h => by simp [flailref01_Decode.j0] at h, fun _ _ r h => by simp [flailref01_Decode.l0] at h⟩
  | k + 1 => by
    obtain ⟨ih0, ih1⟩ := flailref01_Decode.mono_l k
    refine ⟨?_, ?_⟩
    · intro y0
      unfold flailref01_Decode.j0
      repeat' first
      | (with_reducible exact ih0 _)
      | (with_reducible exact ih1 _ _)
      | (with_reducible exact flailref01_first.mono _ _)
      | (with_reducible exact LeO.refl _)
      | (with_reducible exact LeO.none _)
      | (with_reducible refine LeO.ite ?_ ?_)
      | (with_reducible refine LeO.bind ?_ (fun _ => ?_))
      | exact ih0 _
      | exact ih1 _ _
      | exact flailref01_first.mono _ _
      | exact LeO.none _
      | refine LeO.ite ?_ ?_
      | refine LeO.bind ?_ (fun _ => ?_)
    · intro y0 y1
      unfold flailref01_Decode.l0
      repeat' first
      | (with_reducible exact ih0 _)
      | (with_reducible exact ih1 _ _)
      | (with_reducible exact flailref01_first.mono _ _)
      | (with_reducible exact LeO.refl _)
      | (with_reducible exact LeO.none _)
      | (with_reducible refine LeO.ite ?_ ?_)
      | (with_reducible refine LeO.bind ?_ (fun _ => ?_))
      | exact ih0 _
      | exact ih1 _ _
      | exact flailref01_first.mono _ _
      | exact LeO.none _
      | refine LeO.ite ?_ ?_
      | refine LeO.bind ?_ (fun _ => ?_)
theorem flailref01_Decode.mono : ∀ a0 k, LeO (flailref01_Decode.f k a0) (flailref01_Decode.f (k + 1) a0) := by
  intro a0 k
  obtain ⟨ih0, ih1⟩ := flailref01_Decode.mono_l k
  unfold flailref01_Decode.f
  repeat' first
      | (with_reducible exact ih0 _)
      | (with_reducible exact ih1 _ _)
      | (with_reducible exact flailref01_first.mono _ _)
      | (with_reducible exact LeO.refl _)
      | (with_reducible exact LeO.none _)
      | (with_reducible refine LeO.ite ?_ ?_)
      | (with_reducible refine LeO.bind ?_ (fun _ => ?_))
      | exact ih0 _
      | exact ih1 _ _
      | exact flailref01_first.mono _ _
      | exact LeO.none _
      | refine LeO.ite ?_ ?_
      | refine LeO.bind ?_ (fun _ => ?_)
set_option maxHeartbeats 8000000 in
set_option maxRecDepth 100000 in
theorem flailref01_Decode.calls (k : Nat) (P0_ : Nat → Prop) (A0 : Option Addr) (c0 : Nat) (l0 : List Int) (r : ByteArray) (w : World) (hs0 : Kd.V (Kd.int .u8) 5 w w.heap.size (fun k_ => P0_ k_) (.slice A0 l0.length c0) l0) (h : flailref01_Decode.f k l0 = some r) :
    Calls Try.prog 12 #[.slice A0 l0.length c0] w fun e w' => e = .returned (.string r) ∧ Below w.heap.size w w' := by
  have HO0 := Aside0.mk (show Kd.V (Kd.int .u8) 5 w w.heap.size (fun k_ => (P0_ k_ ∨ w.heap.size ≤ k_)) (.slice A0 l0.length c0) l0 from Kd.V_mono hs0 (fun k_ hk => .inl hk))
  have HB := Aside0.mk (Below.refl w.heap.size w)
  have H : (if (l0.length : Int) ≥ 3 then (if 0 < (l0.length : Int) then (if (rd l0 0) = 239 then (if 1 < (l0.length : Int) then (if (rd l0 1) = 187 then (if 2 < (l0.length : Int) then (if (rd l0 2) = 191 then (if 3 ≤ (l0.length : Int) then (flailref01_Decode.j0 k (l0.drop 3)) else (none)) else (flailref01_Decode.j0 k l0)) else (none)) else (flailref01_Decode.j0 k l0)) else (none)) else (flailref01_Decode.j0 k l0)) else (none)) else (flailref01_Decode.j0 k l0)) = some r := h
  clear h
  have HC2 := Aside0.mk H
  clear H
  go_enter Try.func12, Try.ntmps12
  go_upto_if 8 with (fail)
  go_cut [0] (fun v0 wc => ∃ (kq : Nat) (x0_1 : List Int), Aside0 (flailref01_Decode.j0 kq x0_1 = some r) ∧ Aside0 (kq ≤ k) ∧ Aside0 (Kd.V (Kd.int .u8) 5 wc w.heap.size (fun k_ => (P0_ k_ ∨ w.heap.size ≤ k_)) v0 x0_1) ∧ Aside0 (Below w.heap.size w wc))
  case first =>
    have H := HC2.out
    clear HC2
    by_cases c3 : (l0.length : Int) ≥ 3
    · rw [if_pos c3] at H
      have c3b0 : decide (3 ≤ (l0.length : Int)) = true := decide_eq_true c3
      have c3b1 : decide (3 ≤ l0.length) = true := decide_eq_true (by omega)
      clear c3
      (first | rw [c3b0] | (simp only [i64_w, i32_w]; rw [c3b0]) | skip)
      by_cases c4 : 0 < (l0.length : Int)
      · rw [if_pos c4] at H
        have c4b0 : decide (0 < (l0.length : Int)) = true := decide_eq_true c4
        have c4b1 : decide (0 < l0.length) = true := decide_eq_true (by omega)
        clear c4
        by_cases c5 : (rd l0 0) = 239
        · rw [if_pos c5] at H
          have c5b0 : ((rd l0 0) == 239) = true := beq_iff_eq.mpr c5
          have c5b1 : ((rd l0 0) != 239) = false := bne_eq_false_iff_eq.mpr c5
          clear c5
          by_cases c6 : 1 < (l0.length : Int)
          · rw [if_pos c6] at H
            have c6b0 : decide (1 < (l0.length : Int)) = true := decide_eq_true c6
            have c6b1 : decide (1 < l0.length) = true := decide_eq_true (by omega)
            clear c6
            by_cases c7 : (rd l0 1) = 187
            · rw [if_pos c7] at H
              have c7b0 : ((rd l0 1) == 187) = true := beq_iff_eq.mpr c7
              have c7b1 : ((rd l0 1) != 187) = false := bne_eq_false_iff_eq.mpr c7
              clear c7
              by_cases c8 : 2 < (l0.length : Int)
              · rw [if_pos c8] at H
                have c8b0 : decide (2 < (l0.length : Int)) = true := decide_eq_true c8
                have c8b1 : decide (2 < l0.length) = true := decide_eq_true (by omega)
                clear c8
                by_cases c9 : (rd l0 2) = 191
                · rw [if_pos c9] at H
                  have c9b0 : ((rd l0 2) == 191) = true := beq_iff_eq.mpr c9
                  have c9b1 : ((rd l0 2) != 191) = false := bne_eq_false_iff_eq.mpr c9
                  clear c9
                  by_cases c10 : 3 ≤ (l0.length : Int)
                  · rw [if_pos c10] at H
                    have c10b0 := eq_true c10
                    have c10b1 : decide (3 ≤ (l0.length : Int)) = true := decide_eq_true c10
                    clear c10
                    obtain ⟨y151, hy151⟩ : ∃ y_ : List Int, y_ = (l0.drop 3) := ⟨_, rfl⟩
                    replace H : (flailref01_Decode.j0 k y151) = some r := by first | (rw [hy151]; with_reducible exact H) | (have H2_ := (Option.bind_some _ _).symm.trans H; rw [hy151]; with_reducible exact H2_) | (have H2_ := (Option.bind_some _ _).symm.trans H; with_reducible exact H2_) | with_reducible exact H | (rw [hy151]; exact H) | exact H
                    have Ny151 := Aside0.mk hy151
                    clear hy151
                    have H' := Aside0.mk H
                    clear H
                    have p148 : 0 ≤ (0 : Int) := (by omega)
                    have q148 : 0 < (l0.length : Int) := of_decide_eq_true (by first | (with_reducible assumption) | assumption)
                    obtain ⟨ad148, e148, hx148_0⟩ := Kd.at_int (Kd.V_reads' HO0.out).2.2 0 p148 q148
                    cases e148
                    have qi148 : (0 < l0.length) = True := eq_true (by omega)
                    (try rw [show ((0 : Int)).toNat = 0 from rfl] at hx148_0)
                    (try rw [Addr.add_zero'] at hx148_0)
                    replace p148 := eq_true p148
                    replace q148 := eq_true q148
                    have p149 : 0 ≤ (1 : Int) := (by omega)
                    have q149 : 1 < (l0.length : Int) := of_decide_eq_true (by first | (with_reducible assumption) | assumption)
                    obtain ⟨ad149, e149, hx149_0⟩ := Kd.at_int (Kd.V_reads' HO0.out).2.2 1 p149 q149
                    obtain rfl : ad148 = ad149 := (by injection e149)
                    (try simp only [show (1 : Int).toNat = 1 from rfl, Nat.reduceMul, Nat.reduceEqDiff, Go.Addr.add, ↓reduceIte] at hx149_0)
                    have qi149 : (1 < l0.length) = True := eq_true (by omega)
                    (try rw [show ((1 : Int)).toNat = 1 from rfl] at hx149_0)
                    replace p149 := eq_true p149
                    replace q149 := eq_true q149
                    have p150 : 0 ≤ (2 : Int) := (by omega)
                    have q150 : 2 < (l0.length : Int) := of_decide_eq_true (by first | (with_reducible assumption) | assumption)
                    obtain ⟨ad150, e150, hx150_0⟩ := Kd.at_int (Kd.V_reads' HO0.out).2.2 2 p150 q150
                    obtain rfl : ad148 = ad150 := (by injection e150)
                    (try simp only [show (2 : Int).toNat = 2 from rfl, Nat.reduceMul, Nat.reduceEqDiff, Go.Addr.add, ↓reduceIte] at hx150_0)
                    have qi150 : (2 < l0.length) = True := eq_true (by omega)
                    (try rw [show ((2 : Int)).toNat = 2 from rfl] at hx150_0)
                    replace p150 := eq_true p150
                    replace q150 := eq_true q150
                    have q11 : (3 : Int) ≤ ((l0.length : Int) : Int) := of_decide_eq_true (by first | (with_reducible assumption) | assumption)
                    obtain ⟨i011, hi011, _, hsz11, _⟩ := info_parts info5
                    have hroom11 : l0.length ≤ c0 := (Kd.V_reads' HO0.out).2.1
                    have hC11 : Kd.F (Kd.int .u8) _ _ (some ad148) l0.length l0 := (Kd.V_at (base := w.heap.size) HO0.out).2.2
                    have hcut11 := cut_from (P := Try.prog) 22 5 .i64 Try.underlying22 hi011 1 hsz11 (some ad148) l0.length c0 3 (by omega) q11
                    have hr11 := Kd.F_cut (m := (3 : Int).toNat) (c := c0) hC11 (by omega) hroom11
                    obtain ⟨A11, hA11⟩ : ∃ A1, A1 = (if c0 = (3 : Int).toNat then (some ad148) else ((some ad148) : Option Addr).map (·.add ((3 : Int).toNat * 1))) := ⟨_, rfl⟩
                    obtain ⟨c11, hc11⟩ : ∃ c1, c1 = c0 - (3 : Int).toNat := ⟨_, rfl⟩
                    have hy11 : y151.length = l0.length - (3 : Int).toNat := (by rw [Ny151.out, List.length_drop] <;> omega)
                    rw [show (l0).drop (3 : Int).toNat = y151 from Ny151.out.symm] at hr11
                    replace hr11 : Kd.F (Kd.int .u8) _ _ A11 y151.length y151 := (by rw [hA11]; exact hr11)
                    rw [← hy11, ← hA11, ← hc11] at hcut11
                    have HO155 := Aside0.mk (show Kd.V (Kd.int .u8) 5 _ w.heap.size _ (.slice A11 y151.length c11) y151 from Kd.V_mk (by rw [hy11, hc11]; exact Nat.sub_le_sub_right hroom11 _) hr11)
                    have HC155 := Aside0.mk (show y151.length ≤ c11 from by rw [hy11, hc11]; exact Nat.sub_le_sub_right hroom11 _)
                    clear hr11 hC11 hroom11 hi011 hsz11 hc11
                    have KY11 := Aside0.mk hy11
                    have KA11 := Aside0.mk hA11
                    clear hy11 hA11
                    replace q11 := eq_true q11
                    go_wp2
                    go_meet
                    case rel => exact ⟨_, (y151), H', ⟨by first | omega | exact Nat.le_refl _⟩, ⟨by (with_reducible repeat (first | apply Kd.V_alloc | apply Kd.V_drewN | apply Kd.V_drew)); exact HO155.out⟩, ⟨by repeat (first | (with_reducible first | exact HB.out | apply below_alloc | apply pw_below_drewN | apply below_drew1) | exact HB.out)⟩⟩
                  · rw [if_neg c10] at H
                    exact absurd H (by simp)
                · rw [if_neg c9] at H
                  have c9b0 : ((rd l0 2) == 191) = false := beq_eq_false_iff_ne.mpr c9
                  have c9b1 : ((rd l0 2) != 191) = true := bne_iff_ne.mpr c9
                  have H' := Aside0.mk H
                  clear H
                  have p148 : 0 ≤ (0 : Int) := (by omega)
                  have q148 : 0 < (l0.length : Int) := of_decide_eq_true (by first | (with_reducible assumption) | assumption)
                  obtain ⟨ad148, e148, hx148_0⟩ := Kd.at_int (Kd.V_reads' HO0.out).2.2 0 p148 q148
                  cases e148
                  have qi148 : (0 < l0.length) = True := eq_true (by omega)
                  (try rw [show ((0 : Int)).toNat = 0 from rfl] at hx148_0)
                  (try rw [Addr.add_zero'] at hx148_0)
                  replace p148 := eq_true p148
                  replace q148 := eq_true q148
                  have p149 : 0 ≤ (1 : Int) := (by omega)
                  have q149 : 1 < (l0.length : Int) := of_decide_eq_true (by first | (with_reducible assumption) | assumption)
                  obtain ⟨ad149, e149, hx149_0⟩ := Kd.at_int (Kd.V_reads' HO0.out).2.2 1 p149 q149
                  obtain rfl : ad148 = ad149 := (by injection e149)
                  (try simp only [show (1 : Int).toNat = 1 from rfl, Nat.reduceMul, Nat.reduceEqDiff, Go.Addr.add, ↓reduceIte] at hx149_0)
                  have qi149 : (1 < l0.length) = True := eq_true (by omega)
                  (try rw [show ((1 : Int)).toNat = 1 from rfl] at hx149_0)
                  replace p149 := eq_true p149
                  replace q149 := eq_true q149
                  have p150 : 0 ≤ (2 : Int) := (by omega)
                  have q150 : 2 < (l0.length : Int) := of_decide_eq_true (by first | (with_reducible assumption) | assumption)
                  obtain ⟨ad150, e150, hx150_0⟩ := Kd.at_int (Kd.V_reads' HO0.out).2.2 2 p150 q150
                  obtain rfl : ad148 = ad150 := (by injection e150)
                  (try simp only [show (2 : Int).toNat = 2 from rfl, Nat.reduceMul, Nat.reduceEqDiff, Go.Addr.add, ↓reduceIte] at hx150_0)
                  have qi150 : (2 < l0.length) = True := eq_true (by omega)
                  (try rw [show ((2 : Int)).toNat = 2 from rfl] at hx150_0)
                  replace p150 := eq_true p150
                  replace q150 := eq_true q150
                  go_wp2
                  go_meet
                  case rel => exact ⟨_, (l0), H', ⟨by first | omega | exact Nat.le_refl _⟩, ⟨by (with_reducible repeat (first | apply Kd.V_alloc | apply Kd.V_drewN | apply Kd.V_drew)); exact HO0.out⟩, ⟨by repeat (first | (with_reducible first | exact HB.out | apply below_alloc | apply pw_below_drewN | apply below_drew1) | exact HB.out)⟩⟩
              · rw [if_neg c8] at H
                exact absurd H (by simp)
            · rw [if_neg c7] at H
              have c7b0 : ((rd l0 1) == 187) = false := beq_eq_false_iff_ne.mpr c7
              have c7b1 : ((rd l0 1) != 187) = true := bne_iff_ne.mpr c7
              have H' := Aside0.mk H
              clear H
              have p148 : 0 ≤ (0 : Int) := (by omega)
              have q148 : 0 < (l0.length : Int) := of_decide_eq_true (by first | (with_reducible assumption) | assumption)
              obtain ⟨ad148, e148, hx148_0⟩ := Kd.at_int (Kd.V_reads' HO0.out).2.2 0 p148 q148
              cases e148
              have qi148 : (0 < l0.length) = True := eq_true (by omega)
              (try rw [show ((0 : Int)).toNat = 0 from rfl] at hx148_0)
              (try rw [Addr.add_zero'] at hx148_0)
              replace p148 := eq_true p148
              replace q148 := eq_true q148
              have p149 : 0 ≤ (1 : Int) := (by omega)
              have q149 : 1 < (l0.length : Int) := of_decide_eq_true (by first | (with_reducible assumption) | assumption)
              obtain ⟨ad149, e149, hx149_0⟩ := Kd.at_int (Kd.V_reads' HO0.out).2.2 1 p149 q149
              obtain rfl : ad148 = ad149 := (by injection e149)
              (try simp only [show (1 : Int).toNat = 1 from rfl, Nat.reduceMul, Nat.reduceEqDiff, Go.Addr.add, ↓reduceIte] at hx149_0)
              have qi149 : (1 < l0.length) = True := eq_true (by omega)
              (try rw [show ((1 : Int)).toNat = 1 from rfl] at hx149_0)
              replace p149 := eq_true p149
              replace q149 := eq_true q149
              go_wp2
              go_meet
              case rel => exact ⟨_, (l0), H', ⟨by first | omega | exact Nat.le_refl _⟩, ⟨by (with_reducible repeat (first | apply Kd.V_alloc | apply Kd.V_drewN | apply Kd.V_drew)); exact HO0.out⟩, ⟨by repeat (first | (with_reducible first | exact HB.out | apply below_alloc | apply pw_below_drewN | apply below_drew1) | exact HB.out)⟩⟩
          · rw [if_neg c6] at H
            exact absurd H (by simp)
        · rw [if_neg c5] at H
          have c5b0 : ((rd l0 0) == 239) = false := beq_eq_false_iff_ne.mpr c5
          have c5b1 : ((rd l0 0) != 239) = true := bne_iff_ne.mpr c5
          have H' := Aside0.mk H
          clear H
          have p148 : 0 ≤ (0 : Int) := (by omega)
          have q148 : 0 < (l0.length : Int) := of_decide_eq_true (by first | (with_reducible assumption) | assumption)
          obtain ⟨ad148, e148, hx148_0⟩ := Kd.at_int (Kd.V_reads' HO0.out).2.2 0 p148 q148
          cases e148
          have qi148 : (0 < l0.length) = True := eq_true (by omega)
          (try rw [show ((0 : Int)).toNat = 0 from rfl] at hx148_0)
          (try rw [Addr.add_zero'] at hx148_0)
          replace p148 := eq_true p148
          replace q148 := eq_true q148
          go_wp2
          go_meet
          case rel => exact ⟨_, (l0), H', ⟨by first | omega | exact Nat.le_refl _⟩, ⟨by (with_reducible repeat (first | apply Kd.V_alloc | apply Kd.V_drewN | apply Kd.V_drew)); exact HO0.out⟩, ⟨by repeat (first | (with_reducible first | exact HB.out | apply below_alloc | apply pw_below_drewN | apply below_drew1) | exact HB.out)⟩⟩
      · rw [if_neg c4] at H
        exact absurd H (by simp)
    · rw [if_neg c3] at H
      have c3b0 : decide (3 ≤ (l0.length : Int)) = false := decide_eq_false c3
      have c3b1 : decide (3 ≤ l0.length) = false := decide_eq_false (by omega)
      clear c3
      (first | rw [c3b0] | (simp only [i64_w, i32_w]; rw [c3b0]) | skip)
      have H' := Aside0.mk H
      clear H
      go_wp2
      go_meet
      case rel => exact ⟨_, (l0), H', ⟨by first | omega | exact Nat.le_refl _⟩, ⟨by (with_reducible repeat (first | apply Kd.V_alloc | apply Kd.V_drewN | apply Kd.V_drew)); exact HO0.out⟩, ⟨by repeat (first | (with_reducible first | exact HB.out | apply below_alloc | apply pw_below_drewN | apply below_drew1) | exact HB.out)⟩⟩
  case rest =>
    clear HC2
    try clear c1
    try clear p1
    try clear q1
    try clear hx1
    try clear qi1
    try clear p2
    try clear c3
    try clear c3b0
    try clear c3b1
    try clear c4
    try clear c4b0
    try clear c4b1
    try clear c5
    try clear c5b0
    try clear c5b1
    try clear c6
    try clear c6b0
    try clear c6b1
    try clear c7
    try clear c7b0
    try clear c7b1
    try clear c8
    try clear c8b0
    try clear c8b1
    try clear c9
    try clear c9b0
    try clear c9b1
    try clear c10
    try clear c10b0
    try clear c10b1
    try clear c11
    try clear q11
    try clear hx148_0
    try clear hx149_0
    try clear hx150_0
    try clear p148
    try clear p149
    try clear p150
    try clear q11
    try clear q148
    try clear q149
    try clear q150
    obtain ⟨kq, x0_1, HA, HJ1, HO_0, HB⟩ := hcut
    cases kq with
    | zero => exact absurd HA.out (by simp [flailref01_Decode.j0])
    | succ kj1 =>
      have H := HA.out
      clear HA
      simp only [flailref01_Decode.j0] at H
      have H' := Aside0.mk H
      clear H
      go_wp2
      go_loopg [0, 3] kj1 (fun kq v0 v3 w' => ∃ (x0_2 : List Int) (x3_2 : ByteArray), v3 = .string x3_2 ∧ Aside0 (flailref01_Decode.l0 kq x0_2 x3_2 = some r) ∧ Aside0 (kq ≤ kj1) ∧ Aside0 (Kd.V (Kd.int .u8) 5 w' w.heap.size (fun k_ => (P0_ k_ ∨ w.heap.size ≤ k_)) v0 x0_2) ∧ Aside0 (Below w.heap.size w w'))
      case atStart => exact ⟨(x0_1), ((⟨#[]⟩ : ByteArray)), (by first | rfl | (simp; done) | (simp [*]; done)), H', ⟨Nat.le_refl _⟩, ⟨by (with_reducible repeat (first | apply Kd.V_alloc | apply Kd.V_drewN | apply Kd.V_drew)); exact HO_0.out⟩, ⟨by repeat (first | (with_reducible first | exact HB.out | apply below_alloc | apply pw_below_drewN | apply below_drew1) | exact HB.out)⟩⟩
      case round =>
        clear H'
        try clear c1
        try clear p1
        try clear q1
        try clear hx1
        try clear qi1
        try clear p2
        try clear c3
        try clear c3b0
        try clear c3b1
        try clear c4
        try clear c4b0
        try clear c4b1
        try clear c5
        try clear c5b0
        try clear c5b1
        try clear c6
        try clear c6b0
        try clear c6b1
        try clear c7
        try clear c7b0
        try clear c7b1
        try clear c8
        try clear c8b0
        try clear c8b1
        try clear c9
        try clear c9b0
        try clear c9b1
        try clear c10
        try clear c10b0
        try clear c10b1
        try clear c11
        try clear q11
        try clear hx148_0
        try clear hx149_0
        try clear hx150_0
        try clear p1
        try clear p148
        try clear p149
        try clear p150
        try clear p2
        try clear q1
        try clear q11
        try clear q148
        try clear q149
        try clear q150
        obtain ⟨x0_2, x3_2, rfl, HA, HK2, HO_0, HB⟩ := hrel
        cases gk with
        | zero => exact absurd HA.out (by simp [flailref01_Decode.l0])
        | succ k2 =>
          have H := HA.out
          clear HA
          simp only [flailref01_Decode.l0] at H
          by_cases c12 : (x0_2.length : Int) > 0
          · rw [if_pos c12] at H
            have c12b0 : decide (0 < (x0_2.length : Int)) = true := decide_eq_true c12
            have c12b1 : decide (0 < x0_2.length) = true := decide_eq_true (by omega)
            clear c12
            replace H := Option.bind_eq_some_iff.mp H
            obtain ⟨⟨t156, t157⟩, A130, H⟩ := H
            replace H : (if t157 = true then (if 0 ≤ t156 then (if t156 ≤ (x0_2.length : Int) then ((some (x0_2.take (t156 : Int).toNat : List Int)).bind fun y158 => (if x3_2.size + (strOfNums y158).size ≤ 9223372036854775807 then (flailref01_Decode.l0 k2 (x0_2.drop (t156 : Int).toNat) (x3_2 ++ (strOfNums y158))) else (none))) else (none)) else (none)) else (if x3_2.size + 3 ≤ 9223372036854775807 then (if 0 ≤ t156 then (if t156 ≤ (x0_2.length : Int) then (flailref01_Decode.l0 k2 (x0_2.drop (t156 : Int).toNat) (x3_2 ++ (⟨#[239, 191, 189]⟩ : ByteArray))) else (none)) else (none)) else (none))) = some r := H
            have A13 := Aside0.mk A130
            clear A130
            by_cases c14 : t157 = true
            · subst c14
              have H1 : (if 0 ≤ t156 then (if t156 ≤ (x0_2.length : Int) then ((some (x0_2.take (t156 : Int).toNat : List Int)).bind fun y158 => (if x3_2.size + (strOfNums y158).size ≤ 9223372036854775807 then (flailref01_Decode.l0 k2 (x0_2.drop (t156 : Int).toNat) (x3_2 ++ (strOfNums y158))) else (none))) else (none)) else (none)) = some r := by rw [if_pos rfl] at H; exact H
              clear H
              have H := H1
              clear H1
              by_cases c15 : 0 ≤ t156
              · rw [if_pos c15] at H
                have c15b0 := eq_true c15
                have c15b1 : decide (0 ≤ t156) = true := decide_eq_true c15
                clear c15
                by_cases c16 : t156 ≤ (x0_2.length : Int)
                · rw [if_pos c16] at H
                  have c16b0 := eq_true c16
                  have c16b1 : decide (t156 ≤ (x0_2.length : Int)) = true := decide_eq_true c16
                  clear c16
                  obtain ⟨y158, hy158⟩ : ∃ y_ : List Int, y_ = (x0_2.take (t156 : Int).toNat) := ⟨_, rfl⟩
                  replace H : (if x3_2.size + (strOfNums y158).size ≤ 9223372036854775807 then (flailref01_Decode.l0 k2 (x0_2.drop (t156 : Int).toNat) (x3_2 ++ (strOfNums y158))) else (none)) = some r := by first | (rw [hy158]; with_reducible exact H) | (have H2_ := (Option.bind_some _ _).symm.trans H; rw [hy158]; with_reducible exact H2_) | (have H2_ := (Option.bind_some _ _).symm.trans H; with_reducible exact H2_) | with_reducible exact H | (rw [hy158]; exact H) | exact H
                  have Ny158 := Aside0.mk hy158
                  clear hy158
                  by_cases c17 : x3_2.size + (strOfNums y158).size ≤ 9223372036854775807
                  · rw [if_pos c17] at H
                    have c17b0 := eq_true c17
                    have c17b1 : decide (x3_2.size + (strOfNums y158).size ≤ 9223372036854775807) = true := decide_eq_true c17
                    try have c17b2 : (9223372036854775807 < x3_2.size + (strOfNums y158).size) = False := eq_false (Nat.not_lt.2 c17)
                    have c18b0 := eq_true (of_decide_eq_true (by first | (with_reducible assumption) | assumption) : 0 ≤ t156)
                    have c19b0 := eq_true (of_decide_eq_true (by first | (with_reducible assumption) | assumption) : t156 ≤ (x0_2.length : Int))
                    obtain ⟨y163, hy163⟩ : ∃ y_ : List Int, y_ = (x0_2.drop (t156 : Int).toNat) := ⟨_, rfl⟩
                    replace H : (flailref01_Decode.l0 k2 y163 (x3_2 ++ (strOfNums y158))) = some r := by first | (rw [hy163]; with_reducible exact H) | (have H2_ := (Option.bind_some _ _).symm.trans H; rw [hy163]; with_reducible exact H2_) | (have H2_ := (Option.bind_some _ _).symm.trans H; with_reducible exact H2_) | with_reducible exact H | (rw [hy163]; exact H) | exact H
                    have Ny163 := Aside0.mk hy163
                    clear hy163
                    have H' := Aside0.mk H
                    clear H
                    obtain ⟨Ao20, co20, eo20⟩ := Kd.V_slice HO_0.out
                    subst eo20
                    go_wp2_with (first | ((with_reducible refine gate_callee (f := 22) rfl ?_); refine goesL_ (some 32) rfl rfl Try.func22 (by kernel_rfl) rfl #[.slice Ao20 x0_2.length co20] rfl (by (try simp only [List.map_toArray, List.map_cons, List.map_nil]); first | done | rfl | (simp only [List.length_drop, List.length_take]; rfl)) ?_; (with_reducible refine (flailref01_first.calls k2 _ _ x0_2 t156 true _ ?side1 ?side2 A13.out).mono ?_); (case side1 => repeat (first | exact (Kd.V_reads' HO_0.out).2.2 | (with_reducible refine Kd.C_alloc ?_ _) | (with_reducible refine Kd.C_drewN ?_ _) | (with_reducible refine Kd.C_drew ?_))); (case side2 => exact (Kd.V_reads' HO_0.out).2.1); rintro e w21 ⟨rfl, hb⟩; refine ⟨_, rfl, ?_⟩; have n0_ := Aside0.mk (Kd.V_below (by (with_reducible repeat (first | apply Kd.V_alloc | apply Kd.V_drewN | apply Kd.V_drew)); exact HO_0.out) hb); have n1_ := Aside0.mk (below_step (by repeat (first | (with_reducible first | exact HB.out | apply below_alloc | apply pw_below_drewN | apply below_drew1) | exact HB.out)) hb); clear HO_0; clear HB; have HO_0 := n0_; have HB := n1_; clear n0_ n1_; (try clear hb); (try clear hb2); (try clear hk); (try clear hi); have q22 : (t156 : Int) ≤ ((x0_2.length : Int) : Int) := of_decide_eq_true (by first | (with_reducible assumption) | assumption); obtain ⟨i022, hi022, _, hsz22, _⟩ := info_parts info5; have hroom22 : x0_2.length ≤ co20 := (Kd.V_reads' HO_0.out).2.1; have hC22 : Kd.F (Kd.int .u8) _ _ Ao20 x0_2.length x0_2 := (Kd.V_at (base := w.heap.size) HO_0.out).2.2; have hcut22 := cut_to (P := Try.prog) 22 5 .i64 Try.underlying22 hi022 Ao20 x0_2.length co20 t156 (of_decide_eq_true (by first | (with_reducible assumption) | assumption)) q22 hroom22; have hr22 := Kd.F_take (m := (t156 : Int).toNat) hC22 (by omega); have hy22 : y158.length = (t156 : Int).toNat := (by rw [Ny158.out, List.length_take]; omega); rw [← Ny158.out] at hr22; rw [← hy22] at hcut22; have HO162 := Aside0.mk (show Kd.V (Kd.int .u8) 5 _ w.heap.size _ (.slice Ao20 y158.length co20) y158 from Kd.V_mk (by omega) hr22); have HC162 := Aside0.mk (show y158.length ≤ co20 from by omega); clear hr22 hC22 hroom22 hi022 hsz22; have KY22 := Aside0.mk hy22; clear hy22; replace q22 := eq_true q22; have hcv23 := Kd.C_string (P := Try.prog) (A := Ao20) (c := co20) Try.underlying22 Try.underlying5 Try.underlying9 (Kd.V_reads' HO162.out).2.2; have q24 : (t156 : Int) ≤ ((x0_2.length : Int) : Int) := of_decide_eq_true (by first | (with_reducible assumption) | assumption); obtain ⟨i024, hi024, _, hsz24, _⟩ := info_parts info5; have hroom24 : x0_2.length ≤ co20 := (Kd.V_reads' HO_0.out).2.1; have hC24 : Kd.F (Kd.int .u8) _ _ Ao20 x0_2.length x0_2 := (Kd.V_at (base := w.heap.size) HO_0.out).2.2; have q024 : (0 : Int) ≤ (t156 : Int) := of_decide_eq_true (by first | (with_reducible assumption) | assumption); have hcut24 := cut_from (P := Try.prog) 22 5 .i64 Try.underlying22 hi024 1 hsz24 Ao20 x0_2.length co20 t156 q024 q24; have hr24 := Kd.F_cut (m := (t156 : Int).toNat) (c := co20) hC24 (by omega) hroom24; obtain ⟨A24, hA24⟩ : ∃ A1, A1 = (if co20 = (t156 : Int).toNat then Ao20 else (Ao20 : Option Addr).map (·.add ((t156 : Int).toNat * 1))) := ⟨_, rfl⟩; obtain ⟨c24, hc24⟩ : ∃ c1, c1 = co20 - (t156 : Int).toNat := ⟨_, rfl⟩; have hy24 : y163.length = x0_2.length - (t156 : Int).toNat := (by rw [Ny163.out, List.length_drop] <;> omega); rw [show (x0_2).drop (t156 : Int).toNat = y163 from Ny163.out.symm] at hr24; replace hr24 : Kd.F (Kd.int .u8) _ _ A24 y163.length y163 := (by rw [hA24]; exact hr24); rw [← hy24, ← hA24, ← hc24] at hcut24; have HO167 := Aside0.mk (show Kd.V (Kd.int .u8) 5 _ w.heap.size _ (.slice A24 y163.length c24) y163 from Kd.V_mk (by rw [hy24, hc24]; exact Nat.sub_le_sub_right hroom24 _) hr24); have HC167 := Aside0.mk (show y163.length ≤ c24 from by rw [hy24, hc24]; exact Nat.sub_le_sub_right hroom24 _); clear hr24 hC24 hroom24 hi024 hsz24 hc24; have KY24 := Aside0.mk hy24; have KA24 := Aside0.mk hA24; clear hy24 hA24; replace q24 := eq_true q24))
                    go_roundg k2
                    case measure => have := HJ1.out; have := HK2.out; omega
                    case rel => exact ⟨(y163), (x3_2 ++ (strOfNums y158)), (by first | rfl | (simp; done) | (simp [*]; done)), H', ⟨by have := HJ1.out; have := HK2.out; omega⟩, ⟨by (with_reducible repeat (first | apply Kd.V_alloc | apply Kd.V_drewN | apply Kd.V_drew)); exact HO167.out⟩, ⟨by repeat (first | (with_reducible first | exact HB.out | apply below_alloc | apply pw_below_drewN | apply below_drew1) | exact HB.out)⟩⟩
                  · rw [if_neg c17] at H
                    exact absurd H (by simp)
                · rw [if_neg c16] at H
                  exact absurd H (by simp)
              · rw [if_neg c15] at H
                exact absurd H (by simp)
            · replace c14 := Bool.eq_false_iff.mpr c14
              subst c14
              have H1 : (if x3_2.size + 3 ≤ 9223372036854775807 then (if 0 ≤ t156 then (if t156 ≤ (x0_2.length : Int) then (flailref01_Decode.l0 k2 (x0_2.drop (t156 : Int).toNat) (x3_2 ++ (⟨#[239, 191, 189]⟩ : ByteArray))) else (none)) else (none)) else (none)) = some r := by rw [if_neg (show ¬ (false = true) by decide)] at H; exact H
              clear H
              have H := H1
              clear H1
              by_cases c25 : x3_2.size + 3 ≤ 9223372036854775807
              · rw [if_pos c25] at H
                have c25b0 := eq_true c25
                have c25b1 : decide (x3_2.size + 3 ≤ 9223372036854775807) = true := decide_eq_true c25
                try have c25b2 : (9223372036854775807 < x3_2.size + 3) = False := eq_false (Nat.not_lt.2 c25)
                by_cases c26 : 0 ≤ t156
                · rw [if_pos c26] at H
                  have c26b0 := eq_true c26
                  have c26b1 : decide (0 ≤ t156) = true := decide_eq_true c26
                  clear c26
                  by_cases c27 : t156 ≤ (x0_2.length : Int)
                  · rw [if_pos c27] at H
                    have c27b0 := eq_true c27
                    have c27b1 : decide (t156 ≤ (x0_2.length : Int)) = true := decide_eq_true c27
                    clear c27
                    obtain ⟨y168, hy168⟩ : ∃ y_ : List Int, y_ = (x0_2.drop (t156 : Int).toNat) := ⟨_, rfl⟩
                    replace H : (flailref01_Decode.l0 k2 y168 (x3_2 ++ (⟨#[239, 191, 189]⟩ : ByteArray))) = some r := by first | (rw [hy168]; with_reducible exact H) | (have H2_ := (Option.bind_some _ _).symm.trans H; rw [hy168]; with_reducible exact H2_) | (have H2_ := (Option.bind_some _ _).symm.trans H; with_reducible exact H2_) | with_reducible exact H | (rw [hy168]; exact H) | exact H
                    have Ny168 := Aside0.mk hy168
                    clear hy168
                    have H' := Aside0.mk H
                    clear H
                    obtain ⟨Ao28, co28, eo28⟩ := Kd.V_slice HO_0.out
                    subst eo28
                    go_wp2_with (first | ((with_reducible refine gate_callee (f := 22) rfl ?_); refine goesL_ (some 32) rfl rfl Try.func22 (by kernel_rfl) rfl #[.slice Ao28 x0_2.length co28] rfl (by (try simp only [List.map_toArray, List.map_cons, List.map_nil]); first | done | rfl | (simp only [List.length_drop, List.length_take]; rfl)) ?_; (with_reducible refine (flailref01_first.calls k2 _ _ x0_2 t156 false _ ?side1 ?side2 A13.out).mono ?_); (case side1 => repeat (first | exact (Kd.V_reads' HO_0.out).2.2 | (with_reducible refine Kd.C_alloc ?_ _) | (with_reducible refine Kd.C_drewN ?_ _) | (with_reducible refine Kd.C_drew ?_))); (case side2 => exact (Kd.V_reads' HO_0.out).2.1); rintro e w29 ⟨rfl, hb⟩; refine ⟨_, rfl, ?_⟩; have n0_ := Aside0.mk (Kd.V_below (by (with_reducible repeat (first | apply Kd.V_alloc | apply Kd.V_drewN | apply Kd.V_drew)); exact HO_0.out) hb); have n1_ := Aside0.mk (below_step (by repeat (first | (with_reducible first | exact HB.out | apply below_alloc | apply pw_below_drewN | apply below_drew1) | exact HB.out)) hb); clear HO_0; clear HB; have HO_0 := n0_; have HB := n1_; clear n0_ n1_; (try clear hb); (try clear hb2); (try clear hk); (try clear hi); have q30 : (t156 : Int) ≤ ((x0_2.length : Int) : Int) := of_decide_eq_true (by first | (with_reducible assumption) | assumption); obtain ⟨i030, hi030, _, hsz30, _⟩ := info_parts info5; have hroom30 : x0_2.length ≤ co28 := (Kd.V_reads' HO_0.out).2.1; have hC30 : Kd.F (Kd.int .u8) _ _ Ao28 x0_2.length x0_2 := (Kd.V_at (base := w.heap.size) HO_0.out).2.2; have q030 : (0 : Int) ≤ (t156 : Int) := of_decide_eq_true (by first | (with_reducible assumption) | assumption); have hcut30 := cut_from (P := Try.prog) 22 5 .i64 Try.underlying22 hi030 1 hsz30 Ao28 x0_2.length co28 t156 q030 q30; have hr30 := Kd.F_cut (m := (t156 : Int).toNat) (c := co28) hC30 (by omega) hroom30; obtain ⟨A30, hA30⟩ : ∃ A1, A1 = (if co28 = (t156 : Int).toNat then Ao28 else (Ao28 : Option Addr).map (·.add ((t156 : Int).toNat * 1))) := ⟨_, rfl⟩; obtain ⟨c30, hc30⟩ : ∃ c1, c1 = co28 - (t156 : Int).toNat := ⟨_, rfl⟩; have hy30 : y168.length = x0_2.length - (t156 : Int).toNat := (by rw [Ny168.out, List.length_drop] <;> omega); rw [show (x0_2).drop (t156 : Int).toNat = y168 from Ny168.out.symm] at hr30; replace hr30 : Kd.F (Kd.int .u8) _ _ A30 y168.length y168 := (by rw [hA30]; exact hr30); rw [← hy30, ← hA30, ← hc30] at hcut30; have HO172 := Aside0.mk (show Kd.V (Kd.int .u8) 5 _ w.heap.size _ (.slice A30 y168.length c30) y168 from Kd.V_mk (by rw [hy30, hc30]; exact Nat.sub_le_sub_right hroom30 _) hr30); have HC172 := Aside0.mk (show y168.length ≤ c30 from by rw [hy30, hc30]; exact Nat.sub_le_sub_right hroom30 _); clear hr30 hC30 hroom30 hi030 hsz30 hc30; have KY30 := Aside0.mk hy30; have KA30 := Aside0.mk hA30; clear hy30 hA30; replace q30 := eq_true q30))
                    go_roundg k2
                    case measure => have := HJ1.out; have := HK2.out; omega
                    case rel => exact ⟨(y168), (x3_2 ++ (⟨#[239, 191, 189]⟩ : ByteArray)), (by first | rfl | (simp; done) | (simp [*]; done)), H', ⟨by have := HJ1.out; have := HK2.out; omega⟩, ⟨by (with_reducible repeat (first | apply Kd.V_alloc | apply Kd.V_drewN | apply Kd.V_drew)); exact HO172.out⟩, ⟨by repeat (first | (with_reducible first | exact HB.out | apply below_alloc | apply pw_below_drewN | apply below_drew1) | exact HB.out)⟩⟩
                  · rw [if_neg c27] at H
                    exact absurd H (by simp)
                · rw [if_neg c26] at H
                  exact absurd H (by simp)
              · rw [if_neg c25] at H
                exact absurd H (by simp)
          · rw [if_neg c12] at H
            have c12b0 : decide (0 < (x0_2.length : Int)) = false := decide_eq_false c12
            have c12b1 : decide (0 < x0_2.length) = false := decide_eq_false (by omega)
            clear c12
            obtain rfl := Option.some.inj H
            obtain ⟨Ao31, co31, eo31⟩ := Kd.V_slice HO_0.out
            subst eo31
            go_wp2
            go_ret
            exact ⟨by first | rfl | (simp [errW_none, errW_some] <;> rfl) | (simp [*, errW_none, errW_some] <;> rfl), by repeat (first | (with_reducible first | exact HB.out | apply below_alloc | apply pw_below_drewN | apply below_drew1) | exact HB.out)⟩

end Go.Proofs.Ytpflkcmjoiakfaa.PAll
