-- written by a program of ours, after the kit's print, for this claim (see the notes: handprint)
import Derived.Test.YtpflkcmjoiakfaaPAllx0
namespace Go.Proofs.Ytpflkcmjoiakfaa.PAll
open Go.RowKit Go.Proofs.YtpflkcmjoiakfaaW.PrintWords Go.Proofs.YtpflkcmjoiakfaaW.PrintLast Go.Proofs.YtpflkcmjoiakfaaW.PrintMore
attribute [local go_sem] max2_int min2_int max_two min_two max_three min_three max_four min_four   -- for this text's walks alone
set_option linter.unusedVariables false
set_option linter.unusedSimpArgs false

/-! ### utf_tail: function 25 -/
mutual
def utf_tail.j0 : Nat → Int → Bool → Int → Int → Option (Int × Int × Int)
  | 0, _, _, _, _ => none
  | k + 1, x0, x6, x105000, x105001 => if x6 = true then (some (x105000, x105001, 2)) else (if x0 = 224 then (some (160, 191, 3)) else (if x0 = 237 then (some (128, 159, 3)) else (if x0 ≥ 225 then (utf_tail.j1 k x0 (decide (x0 ≤ 239)) x105000 x105001) else (utf_tail.j1 k x0 false x105000 x105001))))
def utf_tail.j1 : Nat → Int → Bool → Int → Int → Option (Int × Int × Int)
  | 0, _, _, _, _ => none
  | k + 1, x0, x22, x105000, x105001 => if x22 = true then (some (x105000, x105001, 3)) else (if x0 = 240 then (some (144, 191, 4)) else (if x0 = 244 then (some (128, 143, 4)) else (if x0 ≥ 241 then (if x0 ≤ 243 then (some (x105000, x105001, 4)) else (some (x105000, x105001, 1))) else (some (x105000, x105001, 1)))))
end
def utf_tail.f (k : Nat) (a0 : Int) : Option (Int × Int × Int) := if a0 ≥ 194 then (utf_tail.j0 k a0 (decide (a0 ≤ 223)) 128 191) else (utf_tail.j0 k a0 false 128 191)
theorem utf_tail.mono_l : ∀ k, (∀ y0 y1 y2 y3, LeO (utf_tail.j0 k y0 y1 y2 y3) (utf_tail.j0 (k + 1) y0 y1 y2 y3)) ∧ (∀ y0 y1 y2 y3, LeO (utf_tail.j1 k y0 y1 y2 y3) (utf_tail.j1 (k + 1) y0 y1 y2 y3))
  | 0 => ⟨fun _ _ _ _ r h => by simp [utf_tail.j0] at h, fun _ _ _ _ r h => by simp [utf_tail.j1] at h⟩
  | k + 1 => by
    obtain ⟨ih0, ih1⟩ := utf_tail.mono_l k
    refine ⟨?_, ?_⟩
    · intro y0 y1 y2 y3
      unfold utf_tail.j0
      repeat' first
      | (with_reducible exact ih0 _ _ _ _)
      | (with_reducible exact ih1 _ _ _ _)
      | (with_reducible exact LeO.refl _)
      | (with_reducible exact LeO.none _)
      | (with_reducible refine LeO.ite ?_ ?_)
      | (with_reducible refine LeO.bind ?_ (fun _ => ?_))
      | exact ih0 _ _ _ _
      | exact ih1 _ _ _ _
      | exact LeO.none _
      | refine LeO.ite ?_ ?_
      | refine LeO.bind ?_ (fun _ => ?_)
    · intro y0 y1 y2 y3
      unfold utf_tail.j1
      repeat' first
      | (with_reducible exact ih0 _ _ _ _)
      | (with_reducible exact ih1 _ _ _ _)
      | (with_reducible exact LeO.refl _)
      | (with_reducible exact LeO.none _)
      | (with_reducible refine LeO.ite ?_ ?_)
      | (with_reducible refine LeO.bind ?_ (fun _ => ?_))
      | exact ih0 _ _ _ _
      | exact ih1 _ _ _ _
      | exact LeO.none _
      | refine LeO.ite ?_ ?_
      | refine LeO.bind ?_ (fun _ => ?_)
theorem utf_tail.mono : ∀ a0 k, LeO (utf_tail.f k a0) (utf_tail.f (k + 1) a0) := by
  intro a0 k
  obtain ⟨ih0, ih1⟩ := utf_tail.mono_l k
  unfold utf_tail.f
  repeat' first
      | (with_reducible exact ih0 _ _ _ _)
      | (with_reducible exact ih1 _ _ _ _)
      | (with_reducible exact LeO.refl _)
      | (with_reducible exact LeO.none _)
      | (with_reducible refine LeO.ite ?_ ?_)
      | (with_reducible refine LeO.bind ?_ (fun _ => ?_))
      | exact ih0 _ _ _ _
      | exact ih1 _ _ _ _
      | exact LeO.none _
      | refine LeO.ite ?_ ?_
      | refine LeO.bind ?_ (fun _ => ?_)
set_option maxHeartbeats 8000000 in
set_option maxRecDepth 100000 in
theorem utf_tail.calls (k : Nat) (a0 : Int) (r1 : Int) (r2 : Int) (r3 : Int) (w : World) (h : utf_tail.f k a0 = some (r1, r2, r3)) :
    Calls Try.prog 25 #[.int .u8 a0] w fun e w' => e = .returned (.tuple #[.agg #[.int .u8 r1, .int .u8 r2], .int .i64 r3]) ∧ Below w.heap.size w w' := by
  have hu48 := Try.underlying48
  have HB := Aside0.mk (Below.refl w.heap.size w)
  have H : (if a0 ≥ 194 then (utf_tail.j0 k a0 (decide (a0 ≤ 223)) 128 191) else (utf_tail.j0 k a0 false 128 191)) = some (r1, r2, r3) := h
  clear h
  have HC2 := Aside0.mk H
  clear H
  go_enter Try.func25, Try.ntmps25
  go_upto_region 2 with (first | ((with_reducible refine gate_dst (N := 2) rfl ?_); refine box_event ?hg (N := 2) ?hd (cs := #[.int .u8 0, .int .u8 0]) (t := 48) ?hr ?_; (case hd => rfl); (case hg => rfl); (case hr => first | (go_simp; done) | (go_simp; rfl)); intro gb103 hg w3 hbox hb; have n0_ := Aside0.mk (below_step (by repeat (first | (with_reducible first | exact HB.out | apply below_alloc | apply pw_below_drewN | apply below_drew1) | exact HB.out)) hb); have n1_ := Aside0.mk (hbox); have n2_ := Aside0.mk ((by rw [hg]; exact (below_size (by repeat (first | (with_reducible first | exact HB.out | apply below_alloc | apply pw_below_drewN | apply below_drew1) | exact HB.out))) : w.heap.size ≤ gb103)); have n3_ := Aside0.mk ((by rw [hg]; exact (below_size (by repeat (first | (with_reducible first | exact HB.out | apply below_alloc | apply pw_below_drewN | apply below_drew1) | exact HB.out))) : w.heap.size ≤ gb103)); clear HB; have HB := n0_; have BK103 := n1_; have GW103 := n2_; have GE103 := n3_; clear n0_ n1_ n2_ n3_; clear hb hbox hg) | ((with_reducible refine gate_dst (N := 4) rfl ?_); refine box_event ?hg (N := 4) ?hd (cs := #[.int .u8 0, .int .u8 0]) (t := 48) ?hr ?_; (case hd => rfl); (case hg => rfl); (case hr => first | (go_simp; done) | (go_simp; rfl)); intro gb104 hg w4 hbox hb; have n0_ := Aside0.mk (blk_below (g := gb103) (o := .cells #[.int .u8 0, .int .u8 0] 48 (0, 0)) (by (with_reducible repeat (first | refine blk_drewN ?_ _ | refine blk_drew ?_ | refine blk_alloc ?_ _)); exact BK103.out) hb); have n1_ := Aside0.mk (below_step (by repeat (first | (with_reducible first | exact HB.out | apply below_alloc | apply pw_below_drewN | apply below_drew1 | refine below_set ?_ GE103.out) | exact HB.out)) hb); have n2_ := Aside0.mk (hbox); have n3_ := Aside0.mk ((by rw [hg]; exact (below_size (by repeat (first | (with_reducible first | exact HB.out | apply below_alloc | apply pw_below_drewN | apply below_drew1 | refine below_set ?_ GE103.out) | exact HB.out))) : w.heap.size ≤ gb104)); have n4_ := Aside0.mk ((by rw [hg]; exact (below_size (by repeat (first | (with_reducible first | exact HB.out | apply below_alloc | apply pw_below_drewN | apply below_drew1 | refine below_set ?_ GE103.out) | exact HB.out))) : w.heap.size ≤ gb104)); have n5_ := Aside0.mk ((by rw [hg]; exact Nat.ne_of_lt (blk_lt (g := gb103) (o := .cells #[.int .u8 0, .int .u8 0] 48 (0, 0)) (by (with_reducible repeat (first | refine blk_drewN ?_ _ | refine blk_drew ?_ | refine blk_alloc ?_ _)); exact BK103.out)) : gb103 ≠ gb104)); have n6_ := Aside0.mk ((by rw [hg]; exact Nat.ne_of_gt (blk_lt (g := gb103) (o := .cells #[.int .u8 0, .int .u8 0] 48 (0, 0)) (by (with_reducible repeat (first | refine blk_drewN ?_ _ | refine blk_drew ?_ | refine blk_alloc ?_ _)); exact BK103.out)) : gb104 ≠ gb103)); clear BK103; clear HB; have BK103 := n0_; have HB := n1_; have BK104 := n2_; have GW104 := n3_; have GE104 := n4_; have NB103_104 := n5_; have NB104_103 := n6_; clear n0_ n1_ n2_ n3_ n4_ n5_ n6_; clear hb hbox hg; have hnb5 := NB104_103.out; have hnc5 := NB103_104.out; have hcz6_0 : w4.cell? ⟨gb104, 0, none⟩ = some (.int .u8 0) := (blk_cell BK104.out 0).trans rfl; have hcz6_1 : w4.cell? ⟨gb104, 1, none⟩ = some (.int .u8 0) := (blk_cell BK104.out 1).trans rfl; have hfz6_0 := blk_frozen BK104.out 0; have hfz6_1 := blk_frozen BK104.out 1))
  (try simp only [Act.put, List.setIfInBounds_toArray, List.set_cons_zero, List.set_cons_succ])
  go_cut [6] (fun v6 wc => ∃ (kq : Nat) (x6_1 : Bool), v6 = .bool x6_1 ∧ Aside0 (utf_tail.j0 kq a0 x6_1 128 191 = some (r1, r2, r3)) ∧ Aside0 (kq ≤ k) ∧ Aside0 (wc.heap[gb103]? = some (.cells #[.int .u8 0, .int .u8 0] 48 (0, 0))) ∧ Aside0 (wc.heap[gb104]? = some (.cells #[.int .u8 128, .int .u8 191] 48 (0, 0))) ∧ Aside0 (Below w.heap.size w wc))
  case first =>
    have H := HC2.out
    clear HC2
    by_cases c7 : a0 ≥ 194
    · rw [if_pos c7] at H
      have c7b0 : decide (194 ≤ a0) = true := decide_eq_true c7
      clear c7
      (first | rw [c7b0] | (simp only [i64_w, i32_w]; rw [c7b0]) | skip)
      have H' := Aside0.mk H
      clear H
      go_wp2
      go_meet
      case rel => exact ⟨_, (decide (a0 ≤ 223)), (by first | rfl | (simp; done) | (simp [*]; done)), H', ⟨by first | omega | exact Nat.le_refl _⟩, ⟨by (with_reducible repeat (first | refine blk_drewN ?_ _ | refine blk_drew ?_ | refine blk_alloc ?_ _)); refine blk_far ?_ NB103_104.out _; (with_reducible repeat (first | refine blk_drewN ?_ _ | refine blk_drew ?_ | refine blk_alloc ?_ _)); refine blk_far ?_ NB103_104.out _; (with_reducible repeat (first | refine blk_drewN ?_ _ | refine blk_drew ?_ | refine blk_alloc ?_ _)); exact BK103.out⟩, ⟨by (with_reducible repeat (first | refine blk_drewN ?_ _ | refine blk_drew ?_ | refine blk_alloc ?_ _)); refine blk_put (cs := #[.int .u8 128, .int .u8 0]) ?_ 1 _ rfl; (with_reducible repeat (first | refine blk_drewN ?_ _ | refine blk_drew ?_ | refine blk_alloc ?_ _)); refine blk_put (cs := #[.int .u8 0, .int .u8 0]) ?_ 0 _ rfl; (with_reducible repeat (first | refine blk_drewN ?_ _ | refine blk_drew ?_ | refine blk_alloc ?_ _)); exact BK104.out⟩, ⟨by repeat (first | (with_reducible first | exact HB.out | apply below_alloc | apply pw_below_drewN | apply below_drew1 | refine below_set ?_ GE103.out | refine below_set ?_ GE104.out) | exact HB.out)⟩⟩
    · rw [if_neg c7] at H
      have c7b0 : decide (194 ≤ a0) = false := decide_eq_false c7
      clear c7
      (first | rw [c7b0] | (simp only [i64_w, i32_w]; rw [c7b0]) | skip)
      have H' := Aside0.mk H
      clear H
      go_wp2
      go_meet
      case rel => exact ⟨_, (false), (by first | rfl | (simp; done) | (simp [*]; done)), H', ⟨by first | omega | exact Nat.le_refl _⟩, ⟨by (with_reducible repeat (first | refine blk_drewN ?_ _ | refine blk_drew ?_ | refine blk_alloc ?_ _)); refine blk_far ?_ NB103_104.out _; (with_reducible repeat (first | refine blk_drewN ?_ _ | refine blk_drew ?_ | refine blk_alloc ?_ _)); refine blk_far ?_ NB103_104.out _; (with_reducible repeat (first | refine blk_drewN ?_ _ | refine blk_drew ?_ | refine blk_alloc ?_ _)); exact BK103.out⟩, ⟨by (with_reducible repeat (first | refine blk_drewN ?_ _ | refine blk_drew ?_ | refine blk_alloc ?_ _)); refine blk_put (cs := #[.int .u8 128, .int .u8 0]) ?_ 1 _ rfl; (with_reducible repeat (first | refine blk_drewN ?_ _ | refine blk_drew ?_ | refine blk_alloc ?_ _)); refine blk_put (cs := #[.int .u8 0, .int .u8 0]) ?_ 0 _ rfl; (with_reducible repeat (first | refine blk_drewN ?_ _ | refine blk_drew ?_ | refine blk_alloc ?_ _)); exact BK104.out⟩, ⟨by repeat (first | (with_reducible first | exact HB.out | apply below_alloc | apply pw_below_drewN | apply below_drew1 | refine below_set ?_ GE103.out | refine below_set ?_ GE104.out) | exact HB.out)⟩⟩
  case rest =>
    clear HC2
    try clear c2
    try clear p2
    try clear c5
    try clear c7
    try clear c7b0
    try clear hcz6_0
    try clear hcz6_1
    try clear hfz6_0
    try clear hfz6_1
    obtain ⟨kq, x6_1, rfl, HA, HJ1, BK103, BK104, HB⟩ := hcut
    cases kq with
    | zero => exact absurd HA.out (by simp [utf_tail.j0])
    | succ kj1 =>
      have H := HA.out
      clear HA
      simp only [utf_tail.j0] at H
      by_cases c8 : x6_1 = true
      · subst c8
        have H1 : (some (128, 191, 2)) = some (r1, r2, r3) := by rw [if_pos rfl] at H; exact H
        clear H
        have H := H1
        clear H1
        simp only [Option.some.injEq, Prod.mk.injEq] at H
        obtain ⟨rfl, rfl, rfl⟩ := H
        have hnb9 := NB104_103.out
        have hnc9 := NB103_104.out
        have hcz10_0 : wc.cell? ⟨gb104, 0, none⟩ = some (.int .u8 128) := (blk_cell BK104.out 0).trans rfl
        have hcz10_1 : wc.cell? ⟨gb104, 1, none⟩ = some (.int .u8 191) := (blk_cell BK104.out 1).trans rfl
        have hfz10_0 := blk_frozen BK104.out 0
        have hfz10_1 := blk_frozen BK104.out 1
        have hcz11_0 : wc.cell? ⟨gb103, 0, none⟩ = some (.int .u8 0) := (blk_cell BK103.out 0).trans rfl
        have hcz11_1 : wc.cell? ⟨gb103, 1, none⟩ = some (.int .u8 0) := (blk_cell BK103.out 1).trans rfl
        have hfz11_0 := blk_frozen BK103.out 0
        have hfz11_1 := blk_frozen BK103.out 1
        go_wp2
        refine bodyPost_ret (results_ct rfl _ _ gb103 48 #[.int .u8 128, .int .u8 191] (0, 0) _ rfl (by (with_reducible repeat (first | refine blk_drewN ?_ _ | refine blk_drew ?_ | refine blk_alloc ?_ _)); refine blk_put (cs := #[.int .u8 128, .int .u8 0]) ?_ 1 _ rfl; (with_reducible repeat (first | refine blk_drewN ?_ _ | refine blk_drew ?_ | refine blk_alloc ?_ _)); refine blk_put (cs := #[.int .u8 0, .int .u8 0]) ?_ 0 _ rfl; (with_reducible repeat (first | refine blk_drewN ?_ _ | refine blk_drew ?_ | refine blk_alloc ?_ _)); exact BK103.out) Try.underlying48 rfl (by kernel_rfl)) rfl ?_
        exact ⟨by first | rfl | (simp [errW_none, errW_some] <;> rfl) | (simp [*, errW_none, errW_some] <;> rfl), by repeat (first | (with_reducible first | exact HB.out | apply below_alloc | apply pw_below_drewN | apply below_drew1 | refine below_set ?_ GE103.out | refine below_set ?_ GE104.out) | exact HB.out)⟩
      · replace c8 := Bool.eq_false_iff.mpr c8
        subst c8
        have H1 : (if a0 = 224 then (some (160, 191, 3)) else (if a0 = 237 then (some (128, 159, 3)) else (if a0 ≥ 225 then (utf_tail.j1 kj1 a0 (decide (a0 ≤ 239)) 128 191) else (utf_tail.j1 kj1 a0 false 128 191)))) = some (r1, r2, r3) := by rw [if_neg (show ¬ (false = true) by decide)] at H; exact H
        clear H
        have H := H1
        clear H1
        by_cases c12 : a0 = 224
        · rw [if_pos c12] at H
          have c12b0 : (a0 == 224) = true := beq_iff_eq.mpr c12
          have c12b1 : (a0 != 224) = false := bne_eq_false_iff_eq.mpr c12
          clear c12
          simp only [Option.some.injEq, Prod.mk.injEq] at H
          obtain ⟨rfl, rfl, rfl⟩ := H
          have hnb13 := NB103_104.out
          have hnc13 := NB104_103.out
          have hcz14_0 : wc.cell? ⟨gb103, 0, none⟩ = some (.int .u8 0) := (blk_cell BK103.out 0).trans rfl
          have hcz14_1 : wc.cell? ⟨gb103, 1, none⟩ = some (.int .u8 0) := (blk_cell BK103.out 1).trans rfl
          have hfz14_0 := blk_frozen BK103.out 0
          have hfz14_1 := blk_frozen BK103.out 1
          go_wp2
          refine bodyPost_ret (results_ct rfl _ _ gb103 48 #[.int .u8 160, .int .u8 191] (0, 0) _ rfl (by (with_reducible repeat (first | refine blk_drewN ?_ _ | refine blk_drew ?_ | refine blk_alloc ?_ _)); refine blk_put (cs := #[.int .u8 160, .int .u8 0]) ?_ 1 _ rfl; (with_reducible repeat (first | refine blk_drewN ?_ _ | refine blk_drew ?_ | refine blk_alloc ?_ _)); refine blk_put (cs := #[.int .u8 0, .int .u8 0]) ?_ 0 _ rfl; (with_reducible repeat (first | refine blk_drewN ?_ _ | refine blk_drew ?_ | refine blk_alloc ?_ _)); exact BK103.out) Try.underlying48 rfl (by kernel_rfl)) rfl ?_
          exact ⟨by first | rfl | (simp [errW_none, errW_some] <;> rfl) | (simp [*, errW_none, errW_some] <;> rfl), by repeat (first | (with_reducible first | exact HB.out | apply below_alloc | apply pw_below_drewN | apply below_drew1 | refine below_set ?_ GE103.out | refine below_set ?_ GE104.out) | exact HB.out)⟩
        · rw [if_neg c12] at H
          have c12b0 : (a0 == 224) = false := beq_eq_false_iff_ne.mpr c12
          have c12b1 : (a0 != 224) = true := bne_iff_ne.mpr c12
          by_cases c15 : a0 = 237
          · rw [if_pos c15] at H
            have c15b0 : (a0 == 237) = true := beq_iff_eq.mpr c15
            have c15b1 : (a0 != 237) = false := bne_eq_false_iff_eq.mpr c15
            clear c15
            simp only [Option.some.injEq, Prod.mk.injEq] at H
            obtain ⟨rfl, rfl, rfl⟩ := H
            have hnb16 := NB103_104.out
            have hnc16 := NB104_103.out
            have hcz17_0 : wc.cell? ⟨gb103, 0, none⟩ = some (.int .u8 0) := (blk_cell BK103.out 0).trans rfl
            have hcz17_1 : wc.cell? ⟨gb103, 1, none⟩ = some (.int .u8 0) := (blk_cell BK103.out 1).trans rfl
            have hfz17_0 := blk_frozen BK103.out 0
            have hfz17_1 := blk_frozen BK103.out 1
            go_wp2
            refine bodyPost_ret (results_ct rfl _ _ gb103 48 #[.int .u8 128, .int .u8 159] (0, 0) _ rfl (by (with_reducible repeat (first | refine blk_drewN ?_ _ | refine blk_drew ?_ | refine blk_alloc ?_ _)); refine blk_put (cs := #[.int .u8 128, .int .u8 0]) ?_ 1 _ rfl; (with_reducible repeat (first | refine blk_drewN ?_ _ | refine blk_drew ?_ | refine blk_alloc ?_ _)); refine blk_put (cs := #[.int .u8 0, .int .u8 0]) ?_ 0 _ rfl; (with_reducible repeat (first | refine blk_drewN ?_ _ | refine blk_drew ?_ | refine blk_alloc ?_ _)); exact BK103.out) Try.underlying48 rfl (by kernel_rfl)) rfl ?_
            exact ⟨by first | rfl | (simp [errW_none, errW_some] <;> rfl) | (simp [*, errW_none, errW_some] <;> rfl), by repeat (first | (with_reducible first | exact HB.out | apply below_alloc | apply pw_below_drewN | apply below_drew1 | refine below_set ?_ GE103.out | refine below_set ?_ GE104.out) | exact HB.out)⟩
          · rw [if_neg c15] at H
            have c15b0 : (a0 == 237) = false := beq_eq_false_iff_ne.mpr c15
            have c15b1 : (a0 != 237) = true := bne_iff_ne.mpr c15
            have HC18 := Aside0.mk H
            clear H
            go_upto_region 8 with (fail)
            go_cut [22] (fun v22 wc => ∃ (kq : Nat) (x22_17 : Bool), v22 = .bool x22_17 ∧ Aside0 (utf_tail.j1 kq a0 x22_17 128 191 = some (r1, r2, r3)) ∧ Aside0 (kq ≤ kj1) ∧ Aside0 (wc.heap[gb103]? = some (.cells #[.int .u8 0, .int .u8 0] 48 (0, 0))) ∧ Aside0 (wc.heap[gb104]? = some (.cells #[.int .u8 128, .int .u8 191] 48 (0, 0))) ∧ Aside0 (Below w.heap.size w wc))
            case first =>
              have H := HC18.out
              clear HC18
              by_cases c19 : a0 ≥ 225
              · rw [if_pos c19] at H
                have c19b0 : decide (225 ≤ a0) = true := decide_eq_true c19
                clear c19
                (first | rw [c19b0] | (simp only [i64_w, i32_w]; rw [c19b0]) | skip)
                have H' := Aside0.mk H
                clear H
                go_wp2
                go_meet
                case rel => exact ⟨_, (decide (a0 ≤ 239)), (by first | rfl | (simp; done) | (simp [*]; done)), H', ⟨by have := HJ1.out; first | omega | exact Nat.le_refl _⟩, ⟨by (with_reducible repeat (first | refine blk_drewN ?_ _ | refine blk_drew ?_ | refine blk_alloc ?_ _)); exact BK103.out⟩, ⟨by (with_reducible repeat (first | refine blk_drewN ?_ _ | refine blk_drew ?_ | refine blk_alloc ?_ _)); exact BK104.out⟩, ⟨by repeat (first | (with_reducible first | exact HB.out | apply below_alloc | apply pw_below_drewN | apply below_drew1 | refine below_set ?_ GE103.out | refine below_set ?_ GE104.out) | exact HB.out)⟩⟩
              · rw [if_neg c19] at H
                have c19b0 : decide (225 ≤ a0) = false := decide_eq_false c19
                clear c19
                (first | rw [c19b0] | (simp only [i64_w, i32_w]; rw [c19b0]) | skip)
                have H' := Aside0.mk H
                clear H
                go_wp2
                go_meet
                case rel => exact ⟨_, (false), (by first | rfl | (simp; done) | (simp [*]; done)), H', ⟨by have := HJ1.out; first | omega | exact Nat.le_refl _⟩, ⟨by (with_reducible repeat (first | refine blk_drewN ?_ _ | refine blk_drew ?_ | refine blk_alloc ?_ _)); exact BK103.out⟩, ⟨by (with_reducible repeat (first | refine blk_drewN ?_ _ | refine blk_drew ?_ | refine blk_alloc ?_ _)); exact BK104.out⟩, ⟨by repeat (first | (with_reducible first | exact HB.out | apply below_alloc | apply pw_below_drewN | apply below_drew1 | refine below_set ?_ GE103.out | refine below_set ?_ GE104.out) | exact HB.out)⟩⟩
            case rest =>
              clear HC18
              try clear c1
              try clear c2
              try clear p2
              try clear c5
              try clear c7
              try clear c7b0
              try clear c8
              try clear c9
              try clear c12
              try clear c12b0
              try clear c12b1
              try clear c13
              try clear c15
              try clear c15b0
              try clear c15b1
              try clear c16
              try clear c19
              try clear c19b0
              try clear hcz10_0
              try clear hcz10_1
              try clear hcz11_0
              try clear hcz11_1
              try clear hcz14_0
              try clear hcz14_1
              try clear hcz17_0
              try clear hcz17_1
              try clear hcz6_0
              try clear hcz6_1
              try clear hfz10_0
              try clear hfz10_1
              try clear hfz11_0
              try clear hfz11_1
              try clear hfz14_0
              try clear hfz14_1
              try clear hfz17_0
              try clear hfz17_1
              try clear hfz6_0
              try clear hfz6_1
              try clear p2
              obtain ⟨kq, x22_17, rfl, HA, HJ17, BK103, BK104, HB⟩ := hcut
              cases kq with
              | zero => exact absurd HA.out (by simp [utf_tail.j1])
              | succ kj17 =>
                have H := HA.out
                clear HA
                simp only [utf_tail.j1] at H
                by_cases c20 : x22_17 = true
                · subst c20
                  have H1 : (some (128, 191, 3)) = some (r1, r2, r3) := by rw [if_pos rfl] at H; exact H
                  clear H
                  have H := H1
                  clear H1
                  simp only [Option.some.injEq, Prod.mk.injEq] at H
                  obtain ⟨rfl, rfl, rfl⟩ := H
                  have hnb21 := NB104_103.out
                  have hnc21 := NB103_104.out
                  have hcz22_0 : wc.cell? ⟨gb104, 0, none⟩ = some (.int .u8 128) := (blk_cell BK104.out 0).trans rfl
                  have hcz22_1 : wc.cell? ⟨gb104, 1, none⟩ = some (.int .u8 191) := (blk_cell BK104.out 1).trans rfl
                  have hfz22_0 := blk_frozen BK104.out 0
                  have hfz22_1 := blk_frozen BK104.out 1
                  have hcz23_0 : wc.cell? ⟨gb103, 0, none⟩ = some (.int .u8 0) := (blk_cell BK103.out 0).trans rfl
                  have hcz23_1 : wc.cell? ⟨gb103, 1, none⟩ = some (.int .u8 0) := (blk_cell BK103.out 1).trans rfl
                  have hfz23_0 := blk_frozen BK103.out 0
                  have hfz23_1 := blk_frozen BK103.out 1
                  go_wp2
                  refine bodyPost_ret (results_ct rfl _ _ gb103 48 #[.int .u8 128, .int .u8 191] (0, 0) _ rfl (by (with_reducible repeat (first | refine blk_drewN ?_ _ | refine blk_drew ?_ | refine blk_alloc ?_ _)); refine blk_put (cs := #[.int .u8 128, .int .u8 0]) ?_ 1 _ rfl; (with_reducible repeat (first | refine blk_drewN ?_ _ | refine blk_drew ?_ | refine blk_alloc ?_ _)); refine blk_put (cs := #[.int .u8 0, .int .u8 0]) ?_ 0 _ rfl; (with_reducible repeat (first | refine blk_drewN ?_ _ | refine blk_drew ?_ | refine blk_alloc ?_ _)); exact BK103.out) Try.underlying48 rfl (by kernel_rfl)) rfl ?_
                  exact ⟨by first | rfl | (simp [errW_none, errW_some] <;> rfl) | (simp [*, errW_none, errW_some] <;> rfl), by repeat (first | (with_reducible first | exact HB.out | apply below_alloc | apply pw_below_drewN | apply below_drew1 | refine below_set ?_ GE103.out | refine below_set ?_ GE104.out) | exact HB.out)⟩
                · replace c20 := Bool.eq_false_iff.mpr c20
                  subst c20
                  have H1 : (if a0 = 240 then (some (144, 191, 4)) else (if a0 = 244 then (some (128, 143, 4)) else (if a0 ≥ 241 then (if a0 ≤ 243 then (some (128, 191, 4)) else (some (128, 191, 1))) else (some (128, 191, 1))))) = some (r1, r2, r3) := by rw [if_neg (show ¬ (false = true) by decide)] at H; exact H
                  clear H
                  have H := H1
                  clear H1
                  by_cases c24 : a0 = 240
                  · rw [if_pos c24] at H
                    have c24b0 : (a0 == 240) = true := beq_iff_eq.mpr c24
                    have c24b1 : (a0 != 240) = false := bne_eq_false_iff_eq.mpr c24
                    clear c24
                    simp only [Option.some.injEq, Prod.mk.injEq] at H
                    obtain ⟨rfl, rfl, rfl⟩ := H
                    have hnb25 := NB103_104.out
                    have hnc25 := NB104_103.out
                    have hcz26_0 : wc.cell? ⟨gb103, 0, none⟩ = some (.int .u8 0) := (blk_cell BK103.out 0).trans rfl
                    have hcz26_1 : wc.cell? ⟨gb103, 1, none⟩ = some (.int .u8 0) := (blk_cell BK103.out 1).trans rfl
                    have hfz26_0 := blk_frozen BK103.out 0
                    have hfz26_1 := blk_frozen BK103.out 1
                    go_wp2
                    refine bodyPost_ret (results_ct rfl _ _ gb103 48 #[.int .u8 144, .int .u8 191] (0, 0) _ rfl (by (with_reducible repeat (first | refine blk_drewN ?_ _ | refine blk_drew ?_ | refine blk_alloc ?_ _)); refine blk_put (cs := #[.int .u8 144, .int .u8 0]) ?_ 1 _ rfl; (with_reducible repeat (first | refine blk_drewN ?_ _ | refine blk_drew ?_ | refine blk_alloc ?_ _)); refine blk_put (cs := #[.int .u8 0, .int .u8 0]) ?_ 0 _ rfl; (with_reducible repeat (first | refine blk_drewN ?_ _ | refine blk_drew ?_ | refine blk_alloc ?_ _)); exact BK103.out) Try.underlying48 rfl (by kernel_rfl)) rfl ?_
                    exact ⟨by first | rfl | (simp [errW_none, errW_some] <;> rfl) | (simp [*, errW_none, errW_some] <;> rfl), by repeat (first | (with_reducible first | exact HB.out | apply below_alloc | apply pw_below_drewN | apply below_drew1 | refine below_set ?_ GE103.out | refine below_set ?_ GE104.out) | exact HB.out)⟩
                  · rw [if_neg c24] at H
                    have c24b0 : (a0 == 240) = false := beq_eq_false_iff_ne.mpr c24
                    have c24b1 : (a0 != 240) = true := bne_iff_ne.mpr c24
                    by_cases c27 : a0 = 244
                    · rw [if_pos c27] at H
                      have c27b0 : (a0 == 244) = true := beq_iff_eq.mpr c27
                      have c27b1 : (a0 != 244) = false := bne_eq_false_iff_eq.mpr c27
                      clear c27
                      simp only [Option.some.injEq, Prod.mk.injEq] at H
                      obtain ⟨rfl, rfl, rfl⟩ := H
                      have hnb28 := NB103_104.out
                      have hnc28 := NB104_103.out
                      have hcz29_0 : wc.cell? ⟨gb103, 0, none⟩ = some (.int .u8 0) := (blk_cell BK103.out 0).trans rfl
                      have hcz29_1 : wc.cell? ⟨gb103, 1, none⟩ = some (.int .u8 0) := (blk_cell BK103.out 1).trans rfl
                      have hfz29_0 := blk_frozen BK103.out 0
                      have hfz29_1 := blk_frozen BK103.out 1
                      go_wp2
                      refine bodyPost_ret (results_ct rfl _ _ gb103 48 #[.int .u8 128, .int .u8 143] (0, 0) _ rfl (by (with_reducible repeat (first | refine blk_drewN ?_ _ | refine blk_drew ?_ | refine blk_alloc ?_ _)); refine blk_put (cs := #[.int .u8 128, .int .u8 0]) ?_ 1 _ rfl; (with_reducible repeat (first | refine blk_drewN ?_ _ | refine blk_drew ?_ | refine blk_alloc ?_ _)); refine blk_put (cs := #[.int .u8 0, .int .u8 0]) ?_ 0 _ rfl; (with_reducible repeat (first | refine blk_drewN ?_ _ | refine blk_drew ?_ | refine blk_alloc ?_ _)); exact BK103.out) Try.underlying48 rfl (by kernel_rfl)) rfl ?_
                      exact ⟨by first | rfl | (simp [errW_none, errW_some] <;> rfl) | (simp [*, errW_none, errW_some] <;> rfl), by repeat (first | (with_reducible first | exact HB.out | apply below_alloc | apply pw_below_drewN | apply below_drew1 | refine below_set ?_ GE103.out | refine below_set ?_ GE104.out) | exact HB.out)⟩
                    · rw [if_neg c27] at H
                      have c27b0 : (a0 == 244) = false := beq_eq_false_iff_ne.mpr c27
                      have c27b1 : (a0 != 244) = true := bne_iff_ne.mpr c27
                      by_cases c30 : a0 ≥ 241
                      · rw [if_pos c30] at H
                        have c30b0 : decide (241 ≤ a0) = true := decide_eq_true c30
                        clear c30
                        by_cases c31 : a0 ≤ 243
                        · rw [if_pos c31] at H
                          have c31b0 : decide (a0 ≤ 243) = true := decide_eq_true c31
                          clear c31
                          simp only [Option.some.injEq, Prod.mk.injEq] at H
                          obtain ⟨rfl, rfl, rfl⟩ := H
                          have hnb32 := NB104_103.out
                          have hnc32 := NB103_104.out
                          have hcz33_0 : wc.cell? ⟨gb104, 0, none⟩ = some (.int .u8 128) := (blk_cell BK104.out 0).trans rfl
                          have hcz33_1 : wc.cell? ⟨gb104, 1, none⟩ = some (.int .u8 191) := (blk_cell BK104.out 1).trans rfl
                          have hfz33_0 := blk_frozen BK104.out 0
                          have hfz33_1 := blk_frozen BK104.out 1
                          have hcz34_0 : wc.cell? ⟨gb103, 0, none⟩ = some (.int .u8 0) := (blk_cell BK103.out 0).trans rfl
                          have hcz34_1 : wc.cell? ⟨gb103, 1, none⟩ = some (.int .u8 0) := (blk_cell BK103.out 1).trans rfl
                          have hfz34_0 := blk_frozen BK103.out 0
                          have hfz34_1 := blk_frozen BK103.out 1
                          go_wp2
                          refine bodyPost_ret (results_ct rfl _ _ gb103 48 #[.int .u8 128, .int .u8 191] (0, 0) _ rfl (by (with_reducible repeat (first | refine blk_drewN ?_ _ | refine blk_drew ?_ | refine blk_alloc ?_ _)); refine blk_put (cs := #[.int .u8 128, .int .u8 0]) ?_ 1 _ rfl; (with_reducible repeat (first | refine blk_drewN ?_ _ | refine blk_drew ?_ | refine blk_alloc ?_ _)); refine blk_put (cs := #[.int .u8 0, .int .u8 0]) ?_ 0 _ rfl; (with_reducible repeat (first | refine blk_drewN ?_ _ | refine blk_drew ?_ | refine blk_alloc ?_ _)); exact BK103.out) Try.underlying48 rfl (by kernel_rfl)) rfl ?_
                          exact ⟨by first | rfl | (simp [errW_none, errW_some] <;> rfl) | (simp [*, errW_none, errW_some] <;> rfl), by repeat (first | (with_reducible first | exact HB.out | apply below_alloc | apply pw_below_drewN | apply below_drew1 | refine below_set ?_ GE103.out | refine below_set ?_ GE104.out) | exact HB.out)⟩
                        · rw [if_neg c31] at H
                          have c31b0 : decide (a0 ≤ 243) = false := decide_eq_false c31
                          clear c31
                          simp only [Option.some.injEq, Prod.mk.injEq] at H
                          obtain ⟨rfl, rfl, rfl⟩ := H
                          have hnb35 := NB104_103.out
                          have hnc35 := NB103_104.out
                          have hcz36_0 : wc.cell? ⟨gb104, 0, none⟩ = some (.int .u8 128) := (blk_cell BK104.out 0).trans rfl
                          have hcz36_1 : wc.cell? ⟨gb104, 1, none⟩ = some (.int .u8 191) := (blk_cell BK104.out 1).trans rfl
                          have hfz36_0 := blk_frozen BK104.out 0
                          have hfz36_1 := blk_frozen BK104.out 1
                          have hcz37_0 : wc.cell? ⟨gb103, 0, none⟩ = some (.int .u8 0) := (blk_cell BK103.out 0).trans rfl
                          have hcz37_1 : wc.cell? ⟨gb103, 1, none⟩ = some (.int .u8 0) := (blk_cell BK103.out 1).trans rfl
                          have hfz37_0 := blk_frozen BK103.out 0
                          have hfz37_1 := blk_frozen BK103.out 1
                          go_wp2
                          refine bodyPost_ret (results_ct rfl _ _ gb103 48 #[.int .u8 128, .int .u8 191] (0, 0) _ rfl (by (with_reducible repeat (first | refine blk_drewN ?_ _ | refine blk_drew ?_ | refine blk_alloc ?_ _)); refine blk_put (cs := #[.int .u8 128, .int .u8 0]) ?_ 1 _ rfl; (with_reducible repeat (first | refine blk_drewN ?_ _ | refine blk_drew ?_ | refine blk_alloc ?_ _)); refine blk_put (cs := #[.int .u8 0, .int .u8 0]) ?_ 0 _ rfl; (with_reducible repeat (first | refine blk_drewN ?_ _ | refine blk_drew ?_ | refine blk_alloc ?_ _)); exact BK103.out) Try.underlying48 rfl (by kernel_rfl)) rfl ?_
                          exact ⟨by first | rfl | (simp [errW_none, errW_some] <;> rfl) | (simp [*, errW_none, errW_some] <;> rfl), by repeat (first | (with_reducible first | exact HB.out | apply below_alloc | apply pw_below_drewN | apply below_drew1 | refine below_set ?_ GE103.out | refine below_set ?_ GE104.out) | exact HB.out)⟩
                      · rw [if_neg c30] at H
                        have c30b0 : decide (241 ≤ a0) = false := decide_eq_false c30
                        clear c30
                        simp only [Option.some.injEq, Prod.mk.injEq] at H
                        obtain ⟨rfl, rfl, rfl⟩ := H
                        have hnb38 := NB104_103.out
                        have hnc38 := NB103_104.out
                        have hcz39_0 : wc.cell? ⟨gb104, 0, none⟩ = some (.int .u8 128) := (blk_cell BK104.out 0).trans rfl
                        have hcz39_1 : wc.cell? ⟨gb104, 1, none⟩ = some (.int .u8 191) := (blk_cell BK104.out 1).trans rfl
                        have hfz39_0 := blk_frozen BK104.out 0
                        have hfz39_1 := blk_frozen BK104.out 1
                        have hcz40_0 : wc.cell? ⟨gb103, 0, none⟩ = some (.int .u8 0) := (blk_cell BK103.out 0).trans rfl
                        have hcz40_1 : wc.cell? ⟨gb103, 1, none⟩ = some (.int .u8 0) := (blk_cell BK103.out 1).trans rfl
                        have hfz40_0 := blk_frozen BK103.out 0
                        have hfz40_1 := blk_frozen BK103.out 1
                        go_wp2
                        refine bodyPost_ret (results_ct rfl _ _ gb103 48 #[.int .u8 128, .int .u8 191] (0, 0) _ rfl (by (with_reducible repeat (first | refine blk_drewN ?_ _ | refine blk_drew ?_ | refine blk_alloc ?_ _)); refine blk_put (cs := #[.int .u8 128, .int .u8 0]) ?_ 1 _ rfl; (with_reducible repeat (first | refine blk_drewN ?_ _ | refine blk_drew ?_ | refine blk_alloc ?_ _)); refine blk_put (cs := #[.int .u8 0, .int .u8 0]) ?_ 0 _ rfl; (with_reducible repeat (first | refine blk_drewN ?_ _ | refine blk_drew ?_ | refine blk_alloc ?_ _)); exact BK103.out) Try.underlying48 rfl (by kernel_rfl)) rfl ?_
                        exact ⟨by first | rfl | (simp [errW_none, errW_some] <;> rfl) | (simp [*, errW_none, errW_some] <;> rfl), by repeat (first | (with_reducible first | exact HB.out | apply below_alloc | apply pw_below_drewN | apply below_drew1 | refine below_set ?_ GE103.out | refine below_set ?_ GE104.out) | exact HB.out)⟩

end Go.Proofs.Ytpflkcmjoiakfaa.PAll
