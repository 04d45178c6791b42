/- Several texts of this claim, laid together into one file. -/
import Derived.Test.YteccaekalcjihaaGreatDoorLotB
import Derived.Laws.BytesArg
import Derived.Lib.ConvBytes
set_option linter.unusedSimpArgs false
set_option linter.unusedVariables false
namespace Go.Proofs.YteccaekalcjihaaGreatDoor.PTn
open Go.RowKit Go.Proofs.YteccaekalcjihaaGreatDoorW.PrintWords Go.Proofs.YteccaekalcjihaaGreatDoorW.PrintLast Go.Proofs.YteccaekalcjihaaGreatDoorW.PrintMore
attribute [local go_sem] max2_int min2_int max_two min_two max_three min_three max_four min_four
set_option linter.unusedVariables false
set_option linter.unusedSimpArgs false
mutual
def utf_tail.j0 : Nat → Int → Bool → Int → Int → Option (Int × Int × Int)
  | 0, _, _, _, _ => none
  | k + 1, x0, x6, x105000, x105001 => if x6 = true then (some (x105000, x105001, 2)) else (if x0 = 224 then (some (160, 191, 3)) else (if x0 = 237 then (some (128, 159, 3)) else (if x0 ≥ 225 then (utf_tail.j1 k x0 (decide (x0 ≤ 239)) x105000 x105001) else (utf_tail.j1 k x0 false x105000 x105001))))
def utf_tail.j1 : Nat → Int → Bool → Int → Int → Option (Int × Int × Int)
  | 0, _, _, _, _ => none
  | k + 1, x0, x22, x105000, x105001 => if x22 = true then (some (x105000, x105001, 3)) else (if x0 = 240 then (some (144, 191, 4)) else (if x0 = 244 then (some (128, 143, 4)) else (if x0 ≥ 241 then (if x0 ≤ 243 then (some (x105000, x105001, 4)) else (some (x105000, x105001, 1))) else (some (x105000, x105001, 1)))))
end
def utf_tail.f (k : Nat) (a0 : Int) : Option (Int × Int × Int) := if a0 ≥ 194 then (utf_tail.j0 k a0 (decide (a0 ≤ 223)) 128 191) else (utf_tail.j0 k a0 false 128 191)
set_option maxHeartbeats 8000000 in
set_option maxRecDepth 100000 in
theorem utf_tail.calls (k : Nat) (a0 : Int) (r1 : Int) (r2 : Int) (r3 : Int) (w : World) (h : utf_tail.f k a0 = some (r1, r2, r3)) :
    Calls Tryz.prog 69 #[.int .u8 a0] w fun e w' => e = .returned (.tuple #[.agg #[.int .u8 r1, .int .u8 r2], .int .i64 r3]) ∧ Below w.heap.size w w' := by
  have hu104 := Tryz.underlying104
  have HB := Aside0.mk (Below.refl w.heap.size w)
  have H : (if a0 ≥ 194 then (utf_tail.j0 k a0 (decide (a0 ≤ 223)) 128 191) else (utf_tail.j0 k a0 false 128 191)) = some (r1, r2, r3) := h
  clear h
  have HC2 := Aside0.mk H
  clear H
  go_enter Tryz.func69, Tryz.ntmps69
  go_upto_region 2 with (first | ((with_reducible refine gate_dst (N := 2) rfl ?_); refine box_event ?hg (N := 2) ?hd (cs := #[.int .u8 0, .int .u8 0]) (t := 104) ?hr ?_; (case hd => rfl); (case hg => rfl); (case hr => first | (go_simp; done) | (go_simp; rfl)); intro gb103 hg w3 hbox hb; have n0_ := Aside0.mk (below_step (by with_reducible repeat first | exact HB.out | apply below_alloc | apply pw_below_drewN | apply below_drew1) hb); have n1_ := Aside0.mk (hbox); have n2_ := Aside0.mk ((by rw [hg]; exact (below_size (by with_reducible repeat first | exact HB.out | apply below_alloc | apply pw_below_drewN | apply below_drew1)) : w.heap.size ≤ gb103)); have n3_ := Aside0.mk ((by rw [hg]; exact (below_size (by with_reducible repeat first | exact HB.out | apply below_alloc | apply pw_below_drewN | apply below_drew1)) : w.heap.size ≤ gb103)); clear HB; have HB := n0_; have BK103 := n1_; have GW103 := n2_; have GE103 := n3_; clear n0_ n1_ n2_ n3_; clear hb hbox hg) | ((with_reducible refine gate_dst (N := 4) rfl ?_); refine box_event ?hg (N := 4) ?hd (cs := #[.int .u8 0, .int .u8 0]) (t := 104) ?hr ?_; (case hd => rfl); (case hg => rfl); (case hr => first | (go_simp; done) | (go_simp; rfl)); intro gb104 hg w4 hbox hb; have n0_ := Aside0.mk (blk_below (g := gb103) (o := .cells #[.int .u8 0, .int .u8 0] 104 (0, 0)) (by (with_reducible repeat (first | refine blk_drewN ?_ _ | refine blk_drew ?_ | refine blk_alloc ?_ _)); exact BK103.out) hb); have n1_ := Aside0.mk (below_step (by repeat (first | (with_reducible first | exact HB.out | apply below_alloc | apply pw_below_drewN | apply below_drew1 | refine below_set ?_ GE103.out) | exact HB.out)) hb); have n2_ := Aside0.mk (hbox); have n3_ := Aside0.mk ((by rw [hg]; exact (below_size (by repeat (first | (with_reducible first | exact HB.out | apply below_alloc | apply pw_below_drewN | apply below_drew1 | refine below_set ?_ GE103.out) | exact HB.out))) : w.heap.size ≤ gb104)); have n4_ := Aside0.mk ((by rw [hg]; exact (below_size (by repeat (first | (with_reducible first | exact HB.out | apply below_alloc | apply pw_below_drewN | apply below_drew1 | refine below_set ?_ GE103.out) | exact HB.out))) : w.heap.size ≤ gb104)); have n5_ := Aside0.mk ((by rw [hg]; exact Nat.ne_of_lt (blk_lt (g := gb103) (o := .cells #[.int .u8 0, .int .u8 0] 104 (0, 0)) (by (with_reducible repeat (first | refine blk_drewN ?_ _ | refine blk_drew ?_ | refine blk_alloc ?_ _)); exact BK103.out)) : gb103 ≠ gb104)); have n6_ := Aside0.mk ((by rw [hg]; exact Nat.ne_of_gt (blk_lt (g := gb103) (o := .cells #[.int .u8 0, .int .u8 0] 104 (0, 0)) (by (with_reducible repeat (first | refine blk_drewN ?_ _ | refine blk_drew ?_ | refine blk_alloc ?_ _)); exact BK103.out)) : gb104 ≠ gb103)); clear BK103; clear HB; have BK103 := n0_; have HB := n1_; have BK104 := n2_; have GW104 := n3_; have GE104 := n4_; have NB103_104 := n5_; have NB104_103 := n6_; clear n0_ n1_ n2_ n3_ n4_ n5_ n6_; clear hb hbox hg; have hnb5 := NB104_103.out; have hnc5 := NB103_104.out; have hcz6_0 : w4.cell? ⟨gb104, 0, none⟩ = some (.int .u8 0) := (blk_cell BK104.out 0).trans rfl; have hcz6_1 : w4.cell? ⟨gb104, 1, none⟩ = some (.int .u8 0) := (blk_cell BK104.out 1).trans rfl; have hfz6_0 := blk_frozen BK104.out 0; have hfz6_1 := blk_frozen BK104.out 1))
  (try simp only [Act.put, List.setIfInBounds_toArray, List.set_cons_zero, List.set_cons_succ])
  go_cut [6] (fun v6 wc => ∃ (kq : Nat) (x6_1 : Bool), v6 = .bool x6_1 ∧ Aside0 (utf_tail.j0 kq a0 x6_1 128 191 = some (r1, r2, r3)) ∧ Aside0 (kq ≤ k) ∧ Aside0 (wc.heap[gb103]? = some (.cells #[.int .u8 0, .int .u8 0] 104 (0, 0))) ∧ Aside0 (wc.heap[gb104]? = some (.cells #[.int .u8 128, .int .u8 191] 104 (0, 0))) ∧ Aside0 (Below w.heap.size w wc))
  case first =>
    have H := HC2.out
    clear HC2
    by_cases c7 : a0 ≥ 194
    · rw [if_pos c7] at H
      have c7b0 : decide (194 ≤ a0) = true := decide_eq_true c7
      clear c7
      (first | rw [c7b0] | (simp only [i64_w, i32_w]; rw [c7b0]) | skip)
      have H' := Aside0.mk H
      clear H
      go_wp2
      go_meet
      case rel => exact ⟨_, (decide (a0 ≤ 223)), (by first | rfl | (simp; done) | (simp [*]; done)), H', ⟨by first | omega | exact Nat.le_refl _⟩, ⟨by (with_reducible repeat (first | refine blk_drewN ?_ _ | refine blk_drew ?_ | refine blk_alloc ?_ _)); refine blk_far ?_ NB103_104.out _; (with_reducible repeat (first | refine blk_drewN ?_ _ | refine blk_drew ?_ | refine blk_alloc ?_ _)); refine blk_far ?_ NB103_104.out _; (with_reducible repeat (first | refine blk_drewN ?_ _ | refine blk_drew ?_ | refine blk_alloc ?_ _)); exact BK103.out⟩, ⟨by (with_reducible repeat (first | refine blk_drewN ?_ _ | refine blk_drew ?_ | refine blk_alloc ?_ _)); refine blk_put (cs := #[.int .u8 128, .int .u8 0]) ?_ 1 _ rfl; (with_reducible repeat (first | refine blk_drewN ?_ _ | refine blk_drew ?_ | refine blk_alloc ?_ _)); refine blk_put (cs := #[.int .u8 0, .int .u8 0]) ?_ 0 _ rfl; (with_reducible repeat (first | refine blk_drewN ?_ _ | refine blk_drew ?_ | refine blk_alloc ?_ _)); exact BK104.out⟩, ⟨by repeat (first | (with_reducible first | exact HB.out | apply below_alloc | apply pw_below_drewN | apply below_drew1 | refine below_set ?_ GE103.out | refine below_set ?_ GE104.out) | exact HB.out)⟩⟩
    · rw [if_neg c7] at H
      have c7b0 : decide (194 ≤ a0) = false := decide_eq_false c7
      clear c7
      (first | rw [c7b0] | (simp only [i64_w, i32_w]; rw [c7b0]) | skip)
      have H' := Aside0.mk H
      clear H
      go_wp2
      go_meet
      case rel => exact ⟨_, (false), (by first | rfl | (simp; done) | (simp [*]; done)), H', ⟨by first | omega | exact Nat.le_refl _⟩, ⟨by (with_reducible repeat (first | refine blk_drewN ?_ _ | refine blk_drew ?_ | refine blk_alloc ?_ _)); refine blk_far ?_ NB103_104.out _; (with_reducible repeat (first | refine blk_drewN ?_ _ | refine blk_drew ?_ | refine blk_alloc ?_ _)); refine blk_far ?_ NB103_104.out _; (with_reducible repeat (first | refine blk_drewN ?_ _ | refine blk_drew ?_ | refine blk_alloc ?_ _)); exact BK103.out⟩, ⟨by (with_reducible repeat (first | refine blk_drewN ?_ _ | refine blk_drew ?_ | refine blk_alloc ?_ _)); refine blk_put (cs := #[.int .u8 128, .int .u8 0]) ?_ 1 _ rfl; (with_reducible repeat (first | refine blk_drewN ?_ _ | refine blk_drew ?_ | refine blk_alloc ?_ _)); refine blk_put (cs := #[.int .u8 0, .int .u8 0]) ?_ 0 _ rfl; (with_reducible repeat (first | refine blk_drewN ?_ _ | refine blk_drew ?_ | refine blk_alloc ?_ _)); exact BK104.out⟩, ⟨by repeat (first | (with_reducible first | exact HB.out | apply below_alloc | apply pw_below_drewN | apply below_drew1 | refine below_set ?_ GE103.out | refine below_set ?_ GE104.out) | exact HB.out)⟩⟩
  case rest =>
    clear HC2
    try clear p2
    try clear c5
    try clear c6
    try clear c7
    try clear c7b0
    try clear hcz6_0
    try clear hcz6_1
    try clear hfz6_0
    try clear hfz6_1
    obtain ⟨kq, x6_1, rfl, HA, HJ1, BK103, BK104, HB⟩ := hcut
    cases kq with
    | zero => exact absurd HA.out (by simp [utf_tail.j0])
    | succ kj1 =>
      have H := HA.out
      clear HA
      simp only [utf_tail.j0] at H
      by_cases c8 : x6_1 = true
      · subst c8
        rw [if_pos rfl] at H
        simp only [Option.some.injEq, Prod.mk.injEq] at H
        obtain ⟨rfl, rfl, rfl⟩ := H
        have hnb9 := NB104_103.out
        have hnc9 := NB103_104.out
        have hcz10_0 : wc.cell? ⟨gb104, 0, none⟩ = some (.int .u8 128) := (blk_cell BK104.out 0).trans rfl
        have hcz10_1 : wc.cell? ⟨gb104, 1, none⟩ = some (.int .u8 191) := (blk_cell BK104.out 1).trans rfl
        have hfz10_0 := blk_frozen BK104.out 0
        have hfz10_1 := blk_frozen BK104.out 1
        have hcz11_0 : wc.cell? ⟨gb103, 0, none⟩ = some (.int .u8 0) := (blk_cell BK103.out 0).trans rfl
        have hcz11_1 : wc.cell? ⟨gb103, 1, none⟩ = some (.int .u8 0) := (blk_cell BK103.out 1).trans rfl
        have hfz11_0 := blk_frozen BK103.out 0
        have hfz11_1 := blk_frozen BK103.out 1
        go_wp2
        refine bodyPost_ret (results_ct rfl _ _ gb103 104 #[.int .u8 128, .int .u8 191] (0, 0) _ rfl (by (with_reducible repeat (first | refine blk_drewN ?_ _ | refine blk_drew ?_ | refine blk_alloc ?_ _)); refine blk_put (cs := #[.int .u8 128, .int .u8 0]) ?_ 1 _ rfl; (with_reducible repeat (first | refine blk_drewN ?_ _ | refine blk_drew ?_ | refine blk_alloc ?_ _)); refine blk_put (cs := #[.int .u8 0, .int .u8 0]) ?_ 0 _ rfl; (with_reducible repeat (first | refine blk_drewN ?_ _ | refine blk_drew ?_ | refine blk_alloc ?_ _)); exact BK103.out) Tryz.underlying104 rfl (by kernel_rfl)) rfl ?_
        exact ⟨by first | rfl | (simp [*] <;> rfl), by repeat (first | (with_reducible first | exact HB.out | apply below_alloc | apply pw_below_drewN | apply below_drew1 | refine below_set ?_ GE103.out | refine below_set ?_ GE104.out) | exact HB.out)⟩
      · replace c8 := Bool.eq_false_iff.mpr c8
        subst c8
        rw [if_neg (show ¬ (false = true) by decide)] at H
        by_cases c12 : a0 = 224
        · rw [if_pos c12] at H
          have c12b0 : (a0 == 224) = true := beq_iff_eq.mpr c12
          have c12b1 : (a0 != 224) = false := bne_eq_false_iff_eq.mpr c12
          clear c12
          simp only [Option.some.injEq, Prod.mk.injEq] at H
          obtain ⟨rfl, rfl, rfl⟩ := H
          have hnb13 := NB103_104.out
          have hnc13 := NB104_103.out
          have hcz14_0 : wc.cell? ⟨gb103, 0, none⟩ = some (.int .u8 0) := (blk_cell BK103.out 0).trans rfl
          have hcz14_1 : wc.cell? ⟨gb103, 1, none⟩ = some (.int .u8 0) := (blk_cell BK103.out 1).trans rfl
          have hfz14_0 := blk_frozen BK103.out 0
          have hfz14_1 := blk_frozen BK103.out 1
          go_wp2
          refine bodyPost_ret (results_ct rfl _ _ gb103 104 #[.int .u8 160, .int .u8 191] (0, 0) _ rfl (by (with_reducible repeat (first | refine blk_drewN ?_ _ | refine blk_drew ?_ | refine blk_alloc ?_ _)); refine blk_put (cs := #[.int .u8 160, .int .u8 0]) ?_ 1 _ rfl; (with_reducible repeat (first | refine blk_drewN ?_ _ | refine blk_drew ?_ | refine blk_alloc ?_ _)); refine blk_put (cs := #[.int .u8 0, .int .u8 0]) ?_ 0 _ rfl; (with_reducible repeat (first | refine blk_drewN ?_ _ | refine blk_drew ?_ | refine blk_alloc ?_ _)); exact BK103.out) Tryz.underlying104 rfl (by kernel_rfl)) rfl ?_
          exact ⟨by first | rfl | (simp [*] <;> rfl), by repeat (first | (with_reducible first | exact HB.out | apply below_alloc | apply pw_below_drewN | apply below_drew1 | refine below_set ?_ GE103.out | refine below_set ?_ GE104.out) | exact HB.out)⟩
        · rw [if_neg c12] at H
          have c12b0 : (a0 == 224) = false := beq_eq_false_iff_ne.mpr c12
          have c12b1 : (a0 != 224) = true := bne_iff_ne.mpr c12
          by_cases c15 : a0 = 237
          · rw [if_pos c15] at H
            have c15b0 : (a0 == 237) = true := beq_iff_eq.mpr c15
            have c15b1 : (a0 != 237) = false := bne_eq_false_iff_eq.mpr c15
            clear c15
            simp only [Option.some.injEq, Prod.mk.injEq] at H
            obtain ⟨rfl, rfl, rfl⟩ := H
            have hnb16 := NB103_104.out
            have hnc16 := NB104_103.out
            have hcz17_0 : wc.cell? ⟨gb103, 0, none⟩ = some (.int .u8 0) := (blk_cell BK103.out 0).trans rfl
            have hcz17_1 : wc.cell? ⟨gb103, 1, none⟩ = some (.int .u8 0) := (blk_cell BK103.out 1).trans rfl
            have hfz17_0 := blk_frozen BK103.out 0
            have hfz17_1 := blk_frozen BK103.out 1
            go_wp2
            refine bodyPost_ret (results_ct rfl _ _ gb103 104 #[.int .u8 128, .int .u8 159] (0, 0) _ rfl (by (with_reducible repeat (first | refine blk_drewN ?_ _ | refine blk_drew ?_ | refine blk_alloc ?_ _)); refine blk_put (cs := #[.int .u8 128, .int .u8 0]) ?_ 1 _ rfl; (with_reducible repeat (first | refine blk_drewN ?_ _ | refine blk_drew ?_ | refine blk_alloc ?_ _)); refine blk_put (cs := #[.int .u8 0, .int .u8 0]) ?_ 0 _ rfl; (with_reducible repeat (first | refine blk_drewN ?_ _ | refine blk_drew ?_ | refine blk_alloc ?_ _)); exact BK103.out) Tryz.underlying104 rfl (by kernel_rfl)) rfl ?_
            exact ⟨by first | rfl | (simp [*] <;> rfl), by repeat (first | (with_reducible first | exact HB.out | apply below_alloc | apply pw_below_drewN | apply below_drew1 | refine below_set ?_ GE103.out | refine below_set ?_ GE104.out) | exact HB.out)⟩
          · rw [if_neg c15] at H
            have c15b0 : (a0 == 237) = false := beq_eq_false_iff_ne.mpr c15
            have c15b1 : (a0 != 237) = true := bne_iff_ne.mpr c15
            have HC18 := Aside0.mk H
            clear H
            go_upto_region 8 with (fail)
            go_cut [22] (fun v22 wc => ∃ (kq : Nat) (x22_17 : Bool), v22 = .bool x22_17 ∧ Aside0 (utf_tail.j1 kq a0 x22_17 128 191 = some (r1, r2, r3)) ∧ Aside0 (kq ≤ kj1) ∧ Aside0 (wc.heap[gb103]? = some (.cells #[.int .u8 0, .int .u8 0] 104 (0, 0))) ∧ Aside0 (wc.heap[gb104]? = some (.cells #[.int .u8 128, .int .u8 191] 104 (0, 0))) ∧ Aside0 (Below w.heap.size w wc))
            case first =>
              have H := HC18.out
              clear HC18
              by_cases c19 : a0 ≥ 225
              · rw [if_pos c19] at H
                have c19b0 : decide (225 ≤ a0) = true := decide_eq_true c19
                clear c19
                (first | rw [c19b0] | (simp only [i64_w, i32_w]; rw [c19b0]) | skip)
                have H' := Aside0.mk H
                clear H
                go_wp2
                go_meet
                case rel => exact ⟨_, (decide (a0 ≤ 239)), (by first | rfl | (simp; done) | (simp [*]; done)), H', ⟨by have := HJ1.out; first | omega | exact Nat.le_refl _⟩, ⟨by (with_reducible repeat (first | refine blk_drewN ?_ _ | refine blk_drew ?_ | refine blk_alloc ?_ _)); exact BK103.out⟩, ⟨by (with_reducible repeat (first | refine blk_drewN ?_ _ | refine blk_drew ?_ | refine blk_alloc ?_ _)); exact BK104.out⟩, ⟨by repeat (first | (with_reducible first | exact HB.out | apply below_alloc | apply pw_below_drewN | apply below_drew1 | refine below_set ?_ GE103.out | refine below_set ?_ GE104.out) | exact HB.out)⟩⟩
              · rw [if_neg c19] at H
                have c19b0 : decide (225 ≤ a0) = false := decide_eq_false c19
                clear c19
                (first | rw [c19b0] | (simp only [i64_w, i32_w]; rw [c19b0]) | skip)
                have H' := Aside0.mk H
                clear H
                go_wp2
                go_meet
                case rel => exact ⟨_, (false), (by first | rfl | (simp; done) | (simp [*]; done)), H', ⟨by have := HJ1.out; first | omega | exact Nat.le_refl _⟩, ⟨by (with_reducible repeat (first | refine blk_drewN ?_ _ | refine blk_drew ?_ | refine blk_alloc ?_ _)); exact BK103.out⟩, ⟨by (with_reducible repeat (first | refine blk_drewN ?_ _ | refine blk_drew ?_ | refine blk_alloc ?_ _)); exact BK104.out⟩, ⟨by repeat (first | (with_reducible first | exact HB.out | apply below_alloc | apply pw_below_drewN | apply below_drew1 | refine below_set ?_ GE103.out | refine below_set ?_ GE104.out) | exact HB.out)⟩⟩
            case rest =>
              clear HC18
              try clear c1
              try clear p2
              try clear c5
              try clear c6
              try clear c7
              try clear c7b0
              try clear c8
              try clear c9
              try clear c12
              try clear c12b0
              try clear c12b1
              try clear c13
              try clear c15
              try clear c15b0
              try clear c15b1
              try clear c16
              try clear c19
              try clear c19b0
              try clear hcz10_0
              try clear hcz10_1
              try clear hcz11_0
              try clear hcz11_1
              try clear hcz14_0
              try clear hcz14_1
              try clear hcz17_0
              try clear hcz17_1
              try clear hcz6_0
              try clear hcz6_1
              try clear hfz10_0
              try clear hfz10_1
              try clear hfz11_0
              try clear hfz11_1
              try clear hfz14_0
              try clear hfz14_1
              try clear hfz17_0
              try clear hfz17_1
              try clear hfz6_0
              try clear hfz6_1
              try clear p2
              obtain ⟨kq, x22_17, rfl, HA, HJ17, BK103, BK104, HB⟩ := hcut
              cases kq with
              | zero => exact absurd HA.out (by simp [utf_tail.j1])
              | succ kj17 =>
                have H := HA.out
                clear HA
                simp only [utf_tail.j1] at H
                by_cases c20 : x22_17 = true
                · subst c20
                  rw [if_pos rfl] at H
                  simp only [Option.some.injEq, Prod.mk.injEq] at H
                  obtain ⟨rfl, rfl, rfl⟩ := H
                  have hnb21 := NB104_103.out
                  have hnc21 := NB103_104.out
                  have hcz22_0 : wc.cell? ⟨gb104, 0, none⟩ = some (.int .u8 128) := (blk_cell BK104.out 0).trans rfl
                  have hcz22_1 : wc.cell? ⟨gb104, 1, none⟩ = some (.int .u8 191) := (blk_cell BK104.out 1).trans rfl
                  have hfz22_0 := blk_frozen BK104.out 0
                  have hfz22_1 := blk_frozen BK104.out 1
                  have hcz23_0 : wc.cell? ⟨gb103, 0, none⟩ = some (.int .u8 0) := (blk_cell BK103.out 0).trans rfl
                  have hcz23_1 : wc.cell? ⟨gb103, 1, none⟩ = some (.int .u8 0) := (blk_cell BK103.out 1).trans rfl
                  have hfz23_0 := blk_frozen BK103.out 0
                  have hfz23_1 := blk_frozen BK103.out 1
                  go_wp2
                  refine bodyPost_ret (results_ct rfl _ _ gb103 104 #[.int .u8 128, .int .u8 191] (0, 0) _ rfl (by (with_reducible repeat (first | refine blk_drewN ?_ _ | refine blk_drew ?_ | refine blk_alloc ?_ _)); refine blk_put (cs := #[.int .u8 128, .int .u8 0]) ?_ 1 _ rfl; (with_reducible repeat (first | refine blk_drewN ?_ _ | refine blk_drew ?_ | refine blk_alloc ?_ _)); refine blk_put (cs := #[.int .u8 0, .int .u8 0]) ?_ 0 _ rfl; (with_reducible repeat (first | refine blk_drewN ?_ _ | refine blk_drew ?_ | refine blk_alloc ?_ _)); exact BK103.out) Tryz.underlying104 rfl (by kernel_rfl)) rfl ?_
                  exact ⟨by first | rfl | (simp [*] <;> rfl), by repeat (first | (with_reducible first | exact HB.out | apply below_alloc | apply pw_below_drewN | apply below_drew1 | refine below_set ?_ GE103.out | refine below_set ?_ GE104.out) | exact HB.out)⟩
                · replace c20 := Bool.eq_false_iff.mpr c20
                  subst c20
                  rw [if_neg (show ¬ (false = true) by decide)] at H
                  by_cases c24 : a0 = 240
                  · rw [if_pos c24] at H
                    have c24b0 : (a0 == 240) = true := beq_iff_eq.mpr c24
                    have c24b1 : (a0 != 240) = false := bne_eq_false_iff_eq.mpr c24
                    clear c24
                    simp only [Option.some.injEq, Prod.mk.injEq] at H
                    obtain ⟨rfl, rfl, rfl⟩ := H
                    have hnb25 := NB103_104.out
                    have hnc25 := NB104_103.out
                    have hcz26_0 : wc.cell? ⟨gb103, 0, none⟩ = some (.int .u8 0) := (blk_cell BK103.out 0).trans rfl
                    have hcz26_1 : wc.cell? ⟨gb103, 1, none⟩ = some (.int .u8 0) := (blk_cell BK103.out 1).trans rfl
                    have hfz26_0 := blk_frozen BK103.out 0
                    have hfz26_1 := blk_frozen BK103.out 1
                    go_wp2
                    refine bodyPost_ret (results_ct rfl _ _ gb103 104 #[.int .u8 144, .int .u8 191] (0, 0) _ rfl (by (with_reducible repeat (first | refine blk_drewN ?_ _ | refine blk_drew ?_ | refine blk_alloc ?_ _)); refine blk_put (cs := #[.int .u8 144, .int .u8 0]) ?_ 1 _ rfl; (with_reducible repeat (first | refine blk_drewN ?_ _ | refine blk_drew ?_ | refine blk_alloc ?_ _)); refine blk_put (cs := #[.int .u8 0, .int .u8 0]) ?_ 0 _ rfl; (with_reducible repeat (first | refine blk_drewN ?_ _ | refine blk_drew ?_ | refine blk_alloc ?_ _)); exact BK103.out) Tryz.underlying104 rfl (by kernel_rfl)) rfl ?_
                    exact ⟨by first | rfl | (simp [*] <;> rfl), by repeat (first | (with_reducible first | exact HB.out | apply below_alloc | apply pw_below_drewN | apply below_drew1 | refine below_set ?_ GE103.out | refine below_set ?_ GE104.out) | exact HB.out)⟩
                  · rw [if_neg c24] at H
                    have c24b0 : (a0 == 240) = false := beq_eq_false_iff_ne.mpr c24
                    have c24b1 : (a0 != 240) = true := bne_iff_ne.mpr c24
                    by_cases c27 : a0 = 244
                    · rw [if_pos c27] at H
                      have c27b0 : (a0 == 244) = true := beq_iff_eq.mpr c27
                      have c27b1 : (a0 != 244) = false := bne_eq_false_iff_eq.mpr c27
                      clear c27
                      simp only [Option.some.injEq, Prod.mk.injEq] at H
                      obtain ⟨rfl, rfl, rfl⟩ := H
                      have hnb28 := NB103_104.out
                      have hnc28 := NB104_103.out
                      have hcz29_0 : wc.cell? ⟨gb103, 0, none⟩ = some (.int .u8 0) := (blk_cell BK103.out 0).trans rfl
                      have hcz29_1 : wc.cell? ⟨gb103, 1, none⟩ = some (.int .u8 0) := (blk_cell BK103.out 1).trans rfl
                      have hfz29_0 := blk_frozen BK103.out 0
                      have hfz29_1 := blk_frozen BK103.out 1
                      go_wp2
                      refine bodyPost_ret (results_ct rfl _ _ gb103 104 #[.int .u8 128, .int .u8 143] (0, 0) _ rfl (by (with_reducible repeat (first | refine blk_drewN ?_ _ | refine blk_drew ?_ | refine blk_alloc ?_ _)); refine blk_put (cs := #[.int .u8 128, .int .u8 0]) ?_ 1 _ rfl; (with_reducible repeat (first | refine blk_drewN ?_ _ | refine blk_drew ?_ | refine blk_alloc ?_ _)); refine blk_put (cs := #[.int .u8 0, .int .u8 0]) ?_ 0 _ rfl; (with_reducible repeat (first | refine blk_drewN ?_ _ | refine blk_drew ?_ | refine blk_alloc ?_ _)); exact BK103.out) Tryz.underlying104 rfl (by kernel_rfl)) rfl ?_
                      exact ⟨by first | rfl | (simp [*] <;> rfl), by repeat (first | (with_reducible first | exact HB.out | apply below_alloc | apply pw_below_drewN | apply below_drew1 | refine below_set ?_ GE103.out | refine below_set ?_ GE104.out) | exact HB.out)⟩
                    · rw [if_neg c27] at H
                      have c27b0 : (a0 == 244) = false := beq_eq_false_iff_ne.mpr c27
                      have c27b1 : (a0 != 244) = true := bne_iff_ne.mpr c27
                      by_cases c30 : a0 ≥ 241
                      · rw [if_pos c30] at H
                        have c30b0 : decide (241 ≤ a0) = true := decide_eq_true c30
                        clear c30
                        by_cases c31 : a0 ≤ 243
                        · rw [if_pos c31] at H
                          have c31b0 : decide (a0 ≤ 243) = true := decide_eq_true c31
                          clear c31
                          simp only [Option.some.injEq, Prod.mk.injEq] at H
                          obtain ⟨rfl, rfl, rfl⟩ := H
                          have hnb32 := NB104_103.out
                          have hnc32 := NB103_104.out
                          have hcz33_0 : wc.cell? ⟨gb104, 0, none⟩ = some (.int .u8 128) := (blk_cell BK104.out 0).trans rfl
                          have hcz33_1 : wc.cell? ⟨gb104, 1, none⟩ = some (.int .u8 191) := (blk_cell BK104.out 1).trans rfl
                          have hfz33_0 := blk_frozen BK104.out 0
                          have hfz33_1 := blk_frozen BK104.out 1
                          have hcz34_0 : wc.cell? ⟨gb103, 0, none⟩ = some (.int .u8 0) := (blk_cell BK103.out 0).trans rfl
                          have hcz34_1 : wc.cell? ⟨gb103, 1, none⟩ = some (.int .u8 0) := (blk_cell BK103.out 1).trans rfl
                          have hfz34_0 := blk_frozen BK103.out 0
                          have hfz34_1 := blk_frozen BK103.out 1
                          go_wp2
                          refine bodyPost_ret (results_ct rfl _ _ gb103 104 #[.int .u8 128, .int .u8 191] (0, 0) _ rfl (by (with_reducible repeat (first | refine blk_drewN ?_ _ | refine blk_drew ?_ | refine blk_alloc ?_ _)); refine blk_put (cs := #[.int .u8 128, .int .u8 0]) ?_ 1 _ rfl; (with_reducible repeat (first | refine blk_drewN ?_ _ | refine blk_drew ?_ | refine blk_alloc ?_ _)); refine blk_put (cs := #[.int .u8 0, .int .u8 0]) ?_ 0 _ rfl; (with_reducible repeat (first | refine blk_drewN ?_ _ | refine blk_drew ?_ | refine blk_alloc ?_ _)); exact BK103.out) Tryz.underlying104 rfl (by kernel_rfl)) rfl ?_
                          exact ⟨by first | rfl | (simp [*] <;> rfl), by repeat (first | (with_reducible first | exact HB.out | apply below_alloc | apply pw_below_drewN | apply below_drew1 | refine below_set ?_ GE103.out | refine below_set ?_ GE104.out) | exact HB.out)⟩
                        · rw [if_neg c31] at H
                          have c31b0 : decide (a0 ≤ 243) = false := decide_eq_false c31
                          clear c31
                          simp only [Option.some.injEq, Prod.mk.injEq] at H
                          obtain ⟨rfl, rfl, rfl⟩ := H
                          have hnb35 := NB104_103.out
                          have hnc35 := NB103_104.out
                          have hcz36_0 : wc.cell? ⟨gb104, 0, none⟩ = some (.int .u8 128) := (blk_cell BK104.out 0).trans rfl
                          have hcz36_1 : wc.cell? ⟨gb104, 1, none⟩ = some (.int .u8 191) := (blk_cell BK104.out 1).trans rfl
                          have hfz36_0 := blk_frozen BK104.out 0
                          have hfz36_1 := blk_frozen BK104.out 1
                          have hcz37_0 : wc.cell? ⟨gb103, 0, none⟩ = some (.int .u8 0) := (blk_cell BK103.out 0).trans rfl
                          have hcz37_1 : wc.cell? ⟨gb103, 1, none⟩ = some (.int .u8 0) := (blk_cell BK103.out 1).trans rfl
                          have hfz37_0 := blk_frozen BK103.out 0
                          have hfz37_1 := blk_frozen BK103.out 1
                          go_wp2
                          refine bodyPost_ret (results_ct rfl _ _ gb103 104 #[.int .u8 128, .int .u8 191] (0, 0) _ rfl (by (with_reducible repeat (first | refine blk_drewN ?_ _ | refine blk_drew ?_ | refine blk_alloc ?_ _)); refine blk_put (cs := #[.int .u8 128, .int .u8 0]) ?_ 1 _ rfl; (with_reducible repeat (first | refine blk_drewN ?_ _ | refine blk_drew ?_ | refine blk_alloc ?_ _)); refine blk_put (cs := #[.int .u8 0, .int .u8 0]) ?_ 0 _ rfl; (with_reducible repeat (first | refine blk_drewN ?_ _ | refine blk_drew ?_ | refine blk_alloc ?_ _)); exact BK103.out) Tryz.underlying104 rfl (by kernel_rfl)) rfl ?_
                          exact ⟨by first | rfl | (simp [*] <;> rfl), by repeat (first | (with_reducible first | exact HB.out | apply below_alloc | apply pw_below_drewN | apply below_drew1 | refine below_set ?_ GE103.out | refine below_set ?_ GE104.out) | exact HB.out)⟩
                      · rw [if_neg c30] at H
                        have c30b0 : decide (241 ≤ a0) = false := decide_eq_false c30
                        clear c30
                        simp only [Option.some.injEq, Prod.mk.injEq] at H
                        obtain ⟨rfl, rfl, rfl⟩ := H
                        have hnb38 := NB104_103.out
                        have hnc38 := NB103_104.out
                        have hcz39_0 : wc.cell? ⟨gb104, 0, none⟩ = some (.int .u8 128) := (blk_cell BK104.out 0).trans rfl
                        have hcz39_1 : wc.cell? ⟨gb104, 1, none⟩ = some (.int .u8 191) := (blk_cell BK104.out 1).trans rfl
                        have hfz39_0 := blk_frozen BK104.out 0
                        have hfz39_1 := blk_frozen BK104.out 1
                        have hcz40_0 : wc.cell? ⟨gb103, 0, none⟩ = some (.int .u8 0) := (blk_cell BK103.out 0).trans rfl
                        have hcz40_1 : wc.cell? ⟨gb103, 1, none⟩ = some (.int .u8 0) := (blk_cell BK103.out 1).trans rfl
                        have hfz40_0 := blk_frozen BK103.out 0
                        have hfz40_1 := blk_frozen BK103.out 1
                        go_wp2
                        refine bodyPost_ret (results_ct rfl _ _ gb103 104 #[.int .u8 128, .int .u8 191] (0, 0) _ rfl (by (with_reducible repeat (first | refine blk_drewN ?_ _ | refine blk_drew ?_ | refine blk_alloc ?_ _)); refine blk_put (cs := #[.int .u8 128, .int .u8 0]) ?_ 1 _ rfl; (with_reducible repeat (first | refine blk_drewN ?_ _ | refine blk_drew ?_ | refine blk_alloc ?_ _)); refine blk_put (cs := #[.int .u8 0, .int .u8 0]) ?_ 0 _ rfl; (with_reducible repeat (first | refine blk_drewN ?_ _ | refine blk_drew ?_ | refine blk_alloc ?_ _)); exact BK103.out) Tryz.underlying104 rfl (by kernel_rfl)) rfl ?_
                        exact ⟨by first | rfl | (simp [*] <;> rfl), by repeat (first | (with_reducible first | exact HB.out | apply below_alloc | apply pw_below_drewN | apply below_drew1 | refine below_set ?_ GE103.out | refine below_set ?_ GE104.out) | exact HB.out)⟩
end Go.Proofs.YteccaekalcjihaaGreatDoor.PTn
namespace Go.Proofs.YteccaekalcjihaaGreatDoor.PTn
open Go.RowKit Go.Proofs.YteccaekalcjihaaGreatDoorW.PrintWords Go.Proofs.YteccaekalcjihaaGreatDoorW.PrintLast Go.Proofs.YteccaekalcjihaaGreatDoorW.PrintMore
attribute [local go_sem] max2_int min2_int max_two min_two max_three min_three max_four min_four
set_option linter.unusedVariables false
set_option linter.unusedSimpArgs false
def utf_span_has.f (a0_0 : Int) (a0_1 : Int) (a1 : Int) : Option (Bool) := if a1 ≥ a0_0 then (some (decide (a1 ≤ a0_1))) else (some false)
set_option maxHeartbeats 8000000 in
set_option maxRecDepth 100000 in
theorem utf_span_has.calls (a0_0 : Int) (a0_1 : Int) (a1 : Int) (r : Bool) (w : World) (h : utf_span_has.f a0_0 a0_1 a1 = some r) :
    Calls Tryz.prog 70 #[.agg #[.int .u8 a0_0, .int .u8 a0_1], .int .u8 a1] w fun e w' => e = .returned (.bool r) ∧ Below w.heap.size w w' := by
  have hu104 := Tryz.underlying104
  have HB := Aside0.mk (Below.refl w.heap.size w)
  have H : (if a1 ≥ a0_0 then (some (decide (a1 ≤ a0_1))) else (some false)) = some r := h
  clear h
  by_cases c3 : a1 ≥ a0_0
  · rw [if_pos c3] at H
    have c3b0 : decide (a0_0 ≤ a1) = true := decide_eq_true c3
    clear c3
    obtain rfl := Option.some.inj H
    go_enter Tryz.func70, Tryz.ntmps70
    go_wp2_with (first | ((with_reducible refine gate_dst (N := 2) rfl ?_); refine box_event ?hg (N := 2) ?hd (cs := #[.int .u8 a0_0, .int .u8 a0_1]) (t := 104) ?hr ?_; (case hd => rfl); (case hg => rfl); (case hr => first | (go_simp; done) | (go_simp; rfl)); intro gb105 hg w4 hbox hb; have n0_ := Aside0.mk (below_step (by with_reducible repeat first | exact HB.out | apply below_alloc | apply pw_below_drewN | apply below_drew1) hb); have n1_ := Aside0.mk (hbox); have n2_ := Aside0.mk ((by rw [hg]; exact (below_size (by with_reducible repeat first | exact HB.out | apply below_alloc | apply pw_below_drewN | apply below_drew1)) : w.heap.size ≤ gb105)); have n3_ := Aside0.mk ((by rw [hg]; exact (below_size (by with_reducible repeat first | exact HB.out | apply below_alloc | apply pw_below_drewN | apply below_drew1)) : w.heap.size ≤ gb105)); clear HB; have HB := n0_; have BK105 := n1_; have GW105 := n2_; have GE105 := n3_; clear n0_ n1_ n2_ n3_; clear hb hbox hg; have hcz5_0 : w4.cell? ⟨gb105, 0, none⟩ = some (.int .u8 a0_0) := (blk_cell BK105.out 0).trans rfl; have hcz5_1 : w4.cell? ⟨gb105, 1, none⟩ = some (.int .u8 a0_1) := (blk_cell BK105.out 1).trans rfl; have hfz5_0 := blk_frozen BK105.out 0; have hfz5_1 := blk_frozen BK105.out 1))
    go_ret
    exact ⟨by first | rfl | (simp [*] <;> rfl), by repeat (first | (with_reducible first | exact HB.out | apply below_alloc | apply pw_below_drewN | apply below_drew1 | refine below_set ?_ GE105.out) | exact HB.out)⟩
  · rw [if_neg c3] at H
    have c3b0 : decide (a0_0 ≤ a1) = false := decide_eq_false c3
    clear c3
    obtain rfl := Option.some.inj H
    go_enter Tryz.func70, Tryz.ntmps70
    go_wp2_with (first | ((with_reducible refine gate_dst (N := 2) rfl ?_); refine box_event ?hg (N := 2) ?hd (cs := #[.int .u8 a0_0, .int .u8 a0_1]) (t := 104) ?hr ?_; (case hd => rfl); (case hg => rfl); (case hr => first | (go_simp; done) | (go_simp; rfl)); intro gb105 hg w6 hbox hb; have n0_ := Aside0.mk (below_step (by with_reducible repeat first | exact HB.out | apply below_alloc | apply pw_below_drewN | apply below_drew1) hb); have n1_ := Aside0.mk (hbox); have n2_ := Aside0.mk ((by rw [hg]; exact (below_size (by with_reducible repeat first | exact HB.out | apply below_alloc | apply pw_below_drewN | apply below_drew1)) : w.heap.size ≤ gb105)); have n3_ := Aside0.mk ((by rw [hg]; exact (below_size (by with_reducible repeat first | exact HB.out | apply below_alloc | apply pw_below_drewN | apply below_drew1)) : w.heap.size ≤ gb105)); clear HB; have HB := n0_; have BK105 := n1_; have GW105 := n2_; have GE105 := n3_; clear n0_ n1_ n2_ n3_; clear hb hbox hg; have hcz7_0 : w6.cell? ⟨gb105, 0, none⟩ = some (.int .u8 a0_0) := (blk_cell BK105.out 0).trans rfl; have hcz7_1 : w6.cell? ⟨gb105, 1, none⟩ = some (.int .u8 a0_1) := (blk_cell BK105.out 1).trans rfl; have hfz7_0 := blk_frozen BK105.out 0; have hfz7_1 := blk_frozen BK105.out 1))
    go_ret
    exact ⟨by first | rfl | (simp [*] <;> rfl), by repeat (first | (with_reducible first | exact HB.out | apply below_alloc | apply pw_below_drewN | apply below_drew1 | refine below_set ?_ GE105.out) | exact HB.out)⟩
end Go.Proofs.YteccaekalcjihaaGreatDoor.PTn
namespace Go.Proofs.YteccaekalcjihaaGreatDoor.PTn
open Go.RowKit Go.Proofs.YteccaekalcjihaaGreatDoorW.PrintWords Go.Proofs.YteccaekalcjihaaGreatDoorW.PrintLast Go.Proofs.YteccaekalcjihaaGreatDoorW.PrintMore
attribute [local go_sem] max2_int min2_int max_two min_two max_three min_three max_four min_four
set_option linter.unusedVariables false
set_option linter.unusedSimpArgs false
def utf_first.l0 : Nat → ByteArray → Int → Int → Int → Int → Option (Int × Bool)
  | 0, _, _, _, _, _ => none
  | k + 1, x0, x2, x5, x110000, x110001 => if x2 < x5 then (if x2 = (x0.size : Int) then (some (x2, false)) else (if 0 ≤ x2 then (if x2 < (x0.size : Int) then ((utf_span_has.f x110000 x110001 (bt x0 x2)).bind fun t110 => (if t110 = true then (utf_first.l0 k x0 (wrap64 (x2 + 1)) x5 128 191) else (some (x2, false)))) else (none)) else (none))) else (some (x2, decide (x5 > 1)))
def utf_first.f (k : Nat) (a0 : ByteArray) : Option (Int × Bool) := if 0 < (a0.size : Int) then (if (bt a0 0) < 128 then (some (1, true)) else ((utf_tail.f k (bt a0 0)).bind fun bt106 => (utf_first.l0 k a0 1 bt106.2.2 bt106.1 bt106.2.1))) else (none)
def utf_first.T7 : Bool × List (List Nat × List Nat) := (true, [([], []), ([], []), ([1], [1]), ([0, 2], [0, 2]), ([3], [3]), ([4], [4]), ([4], [4]), ([4], [4]), ([6, 7, 4], [4, 6, 7]), ([5, 8, 4, 4], [4, 5, 8]), ([9, 4], [4, 9]), ([4, 10], [4, 10])])
def utf_first.B7 : List Nat := [0, 0, 2, 7, 15, 31, 31, 31, 223, 511, 1023, 2047]
theorem utf_first.tab7 : rtab .any (opsOf Tryz.f25 7) = utf_first.T7 := by kernel_rfl
theorem utf_first.bits7 : waitsOk utf_first.T7.2 utf_first.B7 = true := by kernel_rfl
set_option maxHeartbeats 8000000 in
set_option maxRecDepth 100000 in
theorem utf_first.calls (k : Nat) (a0 : ByteArray) (r1 : Int) (r2 : Bool) (w : World) (h : utf_first.f k a0 = some (r1, r2)) :
    Calls Tryz.prog 25 #[.string a0] w fun e w' => e = .returned (.tuple #[.int .i64 r1, .bool r2]) ∧ Below w.heap.size w w' := by
  have hu104 := Tryz.underlying104
  have HB := Aside0.mk (Below.refl w.heap.size w)
  have H : (if 0 < (a0.size : Int) then (if (bt a0 0) < 128 then (some (1, true)) else ((utf_tail.f k (bt a0 0)).bind fun bt106 => (utf_first.l0 k a0 1 bt106.2.2 bt106.1 bt106.2.1))) else (none)) = some (r1, r2) := h
  clear h
  by_cases c2 : 0 < (a0.size : Int)
  · rw [if_pos c2] at H
    have c2b0 : decide (0 < (a0.size : Int)) = true := decide_eq_true c2
    have c2b1 : decide (0 < a0.size) = true := decide_eq_true (by omega)
    clear c2
    by_cases c4 : (bt a0 0) < 128
    · rw [if_pos c4] at H
      have c4b0 : decide ((bt a0 0) < 128) = true := decide_eq_true c4
      clear c4
      simp only [Option.some.injEq, Prod.mk.injEq] at H
      obtain ⟨rfl, rfl⟩ := H
      have p3 : 0 ≤ (0 : Int) := (by omega)
      have q3 : 0 < a0.size := (by have : (0 : Int) < (a0.size : Int) := of_decide_eq_true (by first | (with_reducible assumption) | assumption); omega)
      have hx3 : ∀ h : 0 < a0.size, ((a0[0]'h).toNat : Int) = bt a0 0 := bt_at a0 0
      clear p3
      have qi3 : (0 < (a0.size : Int)) = True := eq_true (of_decide_eq_true (by first | (with_reducible assumption) | assumption))
      replace q3 := eq_true q3
      go_enter Tryz.func25, Tryz.ntmps25
      go_wp2
      go_ret2
      exact ⟨by first | rfl | (simp [*] <;> rfl), by with_reducible repeat first | exact HB.out | apply below_alloc | apply pw_below_drewN | apply below_drew1⟩
    · rw [if_neg c4] at H
      have c4b0 : decide ((bt a0 0) < 128) = false := decide_eq_false c4
      clear c4
      replace H := Option.bind_eq_some_iff.mp H
      obtain ⟨⟨t106, t107, t108⟩, A60, H⟩ := H
      (try dsimp only at H)
      have A6 := Aside0.mk A60
      clear A60
      have H' := Aside0.mk H
      clear H
      have p3 : 0 ≤ (0 : Int) := (by omega)
      have q3 : 0 < a0.size := (by have : (0 : Int) < (a0.size : Int) := of_decide_eq_true (by first | (with_reducible assumption) | assumption); omega)
      have hx3 : ∀ h : 0 < a0.size, ((a0[0]'h).toNat : Int) = bt a0 0 := bt_at a0 0
      clear p3
      have qi3 : (0 < (a0.size : Int)) = True := eq_true (of_decide_eq_true (by first | (with_reducible assumption) | assumption))
      replace q3 := eq_true q3
      have p5 : 0 ≤ (0 : Int) := (by omega)
      have q5 : 0 < a0.size := (by have : (0 : Int) < (a0.size : Int) := of_decide_eq_true (by first | (with_reducible assumption) | assumption); omega)
      have hx5 : ∀ h : 0 < a0.size, ((a0[0]'h).toNat : Int) = bt a0 0 := bt_at a0 0
      clear p5
      have qi5 : (0 < (a0.size : Int)) = True := eq_true (of_decide_eq_true (by first | (with_reducible assumption) | assumption))
      replace q5 := eq_true q5
      go_enter Tryz.func25, Tryz.ntmps25
      go_wp2_with (first | ((with_reducible refine gate_callee (f := 69) rfl ?_); refine goesL_ (some 12) rfl rfl Tryz.func69 (by kernel_rfl) rfl #[.int .u8 (bt a0 0)] rfl (by simp only [List.map_toArray, List.map_cons, List.map_nil] <;> rfl) ?_; (with_reducible refine (utf_tail.calls k (bt a0 0) t106 t107 t108 _ A6.out).mono ?_); rintro e w7 ⟨rfl, hb⟩; refine ⟨_, rfl, ?_⟩; have n0_ := Aside0.mk (below_step (by with_reducible repeat first | exact HB.out | apply below_alloc | apply pw_below_drewN | apply below_drew1) hb); clear HB; have HB := n0_; clear n0_; (try clear hb); (try clear hb2); (try clear hk); (try clear hi)) | ((with_reducible refine gate_dst (N := 4) rfl ?_); refine box_event ?hg (N := 4) ?hd (cs := #[.int .u8 0, .int .u8 0]) (t := 104) ?hr ?_; (case hd => rfl); (case hg => rfl); (case hr => first | (go_simp; done) | (go_simp; rfl)); intro gb109 hg w8 hbox hb; have n0_ := Aside0.mk (below_step (by with_reducible repeat first | exact HB.out | apply below_alloc | apply pw_below_drewN | apply below_drew1) hb); have n1_ := Aside0.mk (hbox); have n2_ := Aside0.mk ((by rw [hg]; exact (below_size (by with_reducible repeat first | exact HB.out | apply below_alloc | apply pw_below_drewN | apply below_drew1)) : w.heap.size ≤ gb109)); have n3_ := Aside0.mk ((by rw [hg]; exact (below_size (by with_reducible repeat first | exact HB.out | apply below_alloc | apply pw_below_drewN | apply below_drew1)) : w.heap.size ≤ gb109)); clear HB; have HB := n0_; have BK109 := n1_; have GW109 := n2_; have GE109 := n3_; clear n0_ n1_ n2_ n3_; clear hb hbox hg; have hcz9_0 : w8.cell? ⟨gb109, 0, none⟩ = some (.int .u8 0) := (blk_cell BK109.out 0).trans rfl; have hcz9_1 : w8.cell? ⟨gb109, 1, none⟩ = some (.int .u8 0) := (blk_cell BK109.out 1).trans rfl; have hfz9_0 := blk_frozen BK109.out 0; have hfz9_1 := blk_frozen BK109.out 1))
      go_loopg [2] k (fun kq v2 w' => ∃ (x2_1 : Int) (x110000_1 : Int) (x110001_1 : Int), v2 = .int .i64 x2_1 ∧ Aside0 (utf_first.l0 kq a0 x2_1 t108 x110000_1 x110001_1 = some (r1, r2)) ∧ Aside0 (kq ≤ k) ∧ Aside0 (w'.heap[gb109]? = some (.cells #[.int .u8 x110000_1, .int .u8 x110001_1] 104 (0, 0))) ∧ Aside0 (Below w.heap.size w w'))
      case atStart => exact ⟨(1), (t106), (t107), (by first | rfl | (simp; done) | (simp [*]; done)), H', ⟨Nat.le_refl _⟩, ⟨by (with_reducible repeat (first | refine blk_drewN ?_ _ | refine blk_drew ?_ | refine blk_alloc ?_ _)); refine blk_put (cs := #[.int .u8 t106, .int .u8 0]) ?_ 1 _ rfl; (with_reducible repeat (first | refine blk_drewN ?_ _ | refine blk_drew ?_ | refine blk_alloc ?_ _)); refine blk_put (cs := #[.int .u8 0, .int .u8 0]) ?_ 0 _ rfl; (with_reducible repeat (first | refine blk_drewN ?_ _ | refine blk_drew ?_ | refine blk_alloc ?_ _)); exact BK109.out⟩, ⟨by repeat (first | (with_reducible first | exact HB.out | apply below_alloc | apply pw_below_drewN | apply below_drew1 | refine below_set ?_ GE109.out) | exact HB.out)⟩⟩
      case round =>
        clear H'
        try clear c2
        try clear c2b0
        try clear c2b1
        try clear p2
        try clear p3
        try clear q3
        try clear hx3
        try clear qi3
        try clear c4
        try clear c4b0
        try clear p5
        try clear q5
        try clear hx5
        try clear qi5
        try clear c6
        try clear hcz9_0
        try clear hcz9_1
        try clear hfz9_0
        try clear hfz9_1
        try clear p3
        try clear p5
        try clear q3
        try clear q5
        obtain ⟨x2_1, x110000_1, x110001_1, rfl, HA, HK1, BK109, HB⟩ := hrel
        cases gk with
        | zero => exact absurd HA.out (by simp [utf_first.l0])
        | succ k1 =>
          have H := HA.out
          clear HA
          simp only [utf_first.l0] at H
          by_cases c10 : x2_1 < t108
          · rw [if_pos c10] at H
            have c10b0 : decide (x2_1 < t108) = true := decide_eq_true c10
            clear c10
            by_cases c11 : x2_1 = (a0.size : Int)
            · rw [if_pos c11] at H
              have c11b0 : (x2_1 == (a0.size : Int)) = true := beq_iff_eq.mpr c11
              have c11b1 : (x2_1 != (a0.size : Int)) = false := bne_eq_false_iff_eq.mpr c11
              clear c11
              simp only [Option.some.injEq, Prod.mk.injEq] at H
              obtain ⟨rfl, rfl⟩ := H
              try go_wp2
              have n0_ := Aside0.mk (blk_drew BK109.out)
              have n1_ := Aside0.mk (below_drew1 HB.out)
              clear BK109
              clear HB
              have BK109 := n0_
              have HB := n1_
              clear n0_ n1_
              refine start_ (n := 12) (S := fun w' => True) (ds := []) #[false, false, false, false, false, false, false, false, false, false, false, false] (by kernel_rfl) rfl rfl trivial (fun hHeld => ?_); refine with_tabW utf_first.tab7 utf_first.bits7 (fun HT_ HW_ => ?_)
              generalize wr.drew = w12 at BK109 HB hHeld ⊢
              refine pure_ (i := 0) (N := some 20) (v := ?_) (a' := ?_) #[true, false, false, false, false, false, false, false, false, false, false, false] rfl rfl (any_of HT_.out (by kernel_rfl)) (fun _ _ _ h => h) (Or.inl ⟨by rfl, ?_⟩) ?_ ?_
              rotate_left
              · intro w'
                go_simp
                with_reducible rfl
              rotate_left
              · simp only [Act.put, List.setIfInBounds_toArray, List.set_cons_zero, List.set_cons_succ, i64_w, i32_w]
                rfl
              refine pure_ (i := 1) (N := some 21) (v := ?_) (a' := ?_) #[true, true, false, false, false, false, false, false, false, false, false, false] rfl rfl (any_of HT_.out (by kernel_rfl)) (fun _ _ _ h => h) (Or.inl ⟨by rfl, ?_⟩) ?_ ?_
              rotate_left
              · intro w'
                go_simp
                with_reducible rfl
              rotate_left
              · simp only [Act.put, List.setIfInBounds_toArray, List.set_cons_zero, List.set_cons_succ, i64_w, i32_w]
                rfl
              refine pure_ (i := 2) (N := some 22) (v := ?_) (a' := ?_) #[true, true, true, false, false, false, false, false, false, false, false, false] rfl rfl (any_of HT_.out (by kernel_rfl)) (fun _ _ _ h => h) (Or.inl ⟨by rfl, ?_⟩) ?_ ?_
              rotate_left
              · intro w'
                go_simp
                with_reducible rfl
              rotate_left
              · simp only [Act.put, List.setIfInBounds_toArray, List.set_cons_zero, List.set_cons_succ, i64_w, i32_w]
                rfl
              refine pure_ (i := 3) (N := some 23) (v := ?_) (a' := ?_) #[true, true, true, true, false, false, false, false, false, false, false, false] rfl rfl (any_of HT_.out (by kernel_rfl)) (fun _ _ _ h => h) (Or.inl ⟨by rfl, ?_⟩) ?_ ?_
              rotate_left
              · intro w'
                go_simp
                with_reducible rfl
              rotate_left
              · simp only [Act.put, List.setIfInBounds_toArray, List.set_cons_zero, List.set_cons_succ, i64_w, i32_w]
                rfl
              refine pure_ (i := 4) (N := some 24) (v := ?_) (a' := ?_) #[true, true, true, true, true, false, false, false, false, false, false, false] rfl rfl (any_of HT_.out (by kernel_rfl)) (fun _ _ _ h => h) (Or.inl ⟨by rfl, ?_⟩) ?_ ?_
              rotate_left
              · intro w'
                go_simp
                with_reducible rfl
              rotate_left
              · simp only [Act.put, List.setIfInBounds_toArray, List.set_cons_zero, List.set_cons_succ, i64_w, i32_w]
                rfl
              refine pure_ (i := 5) (N := some 25) (v := undef) (a' := ?_) #[true, true, true, true, true, true, false, false, false, false, false, false] rfl rfl (any_of HT_.out (by kernel_rfl)) (fun _ _ _ h => h) (Or.inr ⟨by rfl, rfl⟩) ?_ ?_
              rotate_left
              · simp only [Act.put, List.setIfInBounds_toArray, List.set_cons_zero, List.set_cons_succ, i64_w, i32_w]
                rfl
              refine pure_ (i := 6) (N := some 26) (v := undef) (a' := ?_) #[true, true, true, true, true, true, true, false, false, false, false, false] rfl rfl (any_of HT_.out (by kernel_rfl)) (fun _ _ _ h => h) (Or.inr ⟨by rfl, rfl⟩) ?_ ?_
              rotate_left
              · simp only [Act.put, List.setIfInBounds_toArray, List.set_cons_zero, List.set_cons_succ, i64_w, i32_w]
                rfl
              refine pure_ (i := 7) (N := some 27) (v := undef) (a' := ?_) #[true, true, true, true, true, true, true, true, false, false, false, false] rfl rfl (any_of HT_.out (by kernel_rfl)) (fun _ _ _ h => h) (Or.inr ⟨by rfl, rfl⟩) ?_ ?_
              rotate_left
              · simp only [Act.put, List.setIfInBounds_toArray, List.set_cons_zero, List.set_cons_succ, i64_w, i32_w]
                rfl
              refine pure_ (i := 8) (N := some 28) (v := undef) (a' := ?_) #[true, true, true, true, true, true, true, true, true, false, false, false] rfl rfl (any_of HT_.out (by kernel_rfl)) (fun _ _ _ h => h) (Or.inr ⟨by rfl, rfl⟩) ?_ ?_
              rotate_left
              · simp only [Act.put, List.setIfInBounds_toArray, List.set_cons_zero, List.set_cons_succ, i64_w, i32_w]
                rfl
              refine pure_ (i := 9) (N := some 29) (v := undef) (a' := ?_) #[true, true, true, true, true, true, true, true, true, true, false, false] rfl rfl (any_of HT_.out (by kernel_rfl)) (fun _ _ _ h => h) (Or.inr ⟨by rfl, rfl⟩) ?_ ?_
              rotate_left
              · simp only [Act.put, List.setIfInBounds_toArray, List.set_cons_zero, List.set_cons_succ, i64_w, i32_w]
                rfl
              refine pure_ (i := 10) (N := some 30) (v := undef) (a' := ?_) #[true, true, true, true, true, true, true, true, true, true, true, false] rfl rfl (any_of HT_.out (by kernel_rfl)) (fun _ _ _ h => h) (Or.inr ⟨by rfl, rfl⟩) ?_ ?_
              rotate_left
              · simp only [Act.put, List.setIfInBounds_toArray, List.set_cons_zero, List.set_cons_succ, i64_w, i32_w]
                rfl
              refine pure_ (i := 11) (N := some 31) (v := ?_) (a' := ?_) #[true, true, true, true, true, true, true, true, true, true, true, true] rfl rfl (any_of HT_.out (by kernel_rfl)) (fun _ _ _ h => h) (Or.inl ⟨by rfl, ?_⟩) ?_ ?_
              rotate_left
              · intro w'
                go_simp
                with_reducible rfl
              rotate_left
              · simp only [Act.put, List.setIfInBounds_toArray, List.set_cons_zero, List.set_cons_succ, i64_w, i32_w]
                rfl
              refine done_ (done_of HT_.out (by kernel_rfl)) ?_
              try go_wp2
              go_ret2
              exact ⟨by first | rfl | (simp [*] <;> rfl), by repeat (first | (with_reducible first | exact HB.out | apply below_alloc | apply pw_below_drewN | apply below_drew1 | refine below_set ?_ GE109.out) | exact HB.out)⟩
            · rw [if_neg c11] at H
              have c11b0 : (x2_1 == (a0.size : Int)) = false := beq_eq_false_iff_ne.mpr c11
              have c11b1 : (x2_1 != (a0.size : Int)) = true := bne_iff_ne.mpr c11
              by_cases c13 : 0 ≤ x2_1
              · rw [if_pos c13] at H
                have c13b0 : decide (0 ≤ x2_1) = true := decide_eq_true c13
                clear c13
                by_cases c14 : x2_1 < (a0.size : Int)
                · rw [if_pos c14] at H
                  have c14b0 : decide (x2_1 < (a0.size : Int)) = true := decide_eq_true c14
                  clear c14
                  replace H := Option.bind_eq_some_iff.mp H
                  obtain ⟨t110, A160, H⟩ := H
                  (try dsimp only at H)
                  have A16 := Aside0.mk A160
                  clear A160
                  by_cases c17 : t110 = true
                  · subst c17
                    rw [if_pos rfl] at H
                    have H' := Aside0.mk H
                    clear H
                    try go_wp2
                    have n0_ := Aside0.mk (blk_drew BK109.out)
                    have n1_ := Aside0.mk (below_drew1 HB.out)
                    clear BK109
                    clear HB
                    have BK109 := n0_
                    have HB := n1_
                    clear n0_ n1_
                    have p15 : 0 ≤ (x2_1 : Int) := of_decide_eq_true (by first | (with_reducible assumption) | assumption)
                    have q15 : x2_1 < (a0.size : Int) := of_decide_eq_true (by first | (with_reducible assumption) | assumption)
                    have hx15 := bt_at a0 x2_1
                    replace p15 := eq_true p15
                    replace q15 := eq_true q15
                    refine start_ (n := 12) (S := fun w' => w'.cell? ⟨gb109, 0, none⟩ = some (.int .u8 x110000_1) ∧ w'.cell? ⟨gb109, 1, none⟩ = some (.int .u8 x110001_1)) (ds := []) #[false, false, false, false, false, false, false, false, false, false, false, false] (by kernel_rfl) rfl rfl ⟨(blk_cell BK109.out 0).trans rfl, (blk_cell BK109.out 1).trans rfl⟩ (fun hHeld => ?_); refine with_tabW utf_first.tab7 utf_first.bits7 (fun HT_ HW_ => ?_)
                    generalize wr.drew = w18 at BK109 HB hHeld ⊢
                    refine pure_ (i := 0) (N := some 20) (v := ?_) (a' := ?_) #[true, false, false, false, false, false, false, false, false, false, false, false] rfl rfl (any_of HT_.out (by kernel_rfl)) (fun _ _ _ h => h) (Or.inl ⟨by rfl, ?_⟩) ?_ ?_
                    rotate_left
                    · intro w'
                      go_simp
                      with_reducible rfl
                    rotate_left
                    · simp only [Act.put, List.setIfInBounds_toArray, List.set_cons_zero, List.set_cons_succ, i64_w, i32_w]
                      rfl
                    refine pure_ (i := 1) (N := some 21) (v := ?_) (a' := ?_) #[true, true, false, false, false, false, false, false, false, false, false, false] rfl rfl (any_of HT_.out (by kernel_rfl)) (fun _ _ _ h => h) (Or.inl ⟨by rfl, ?_⟩) ?_ ?_
                    rotate_left
                    · intro w'
                      go_simp
                      with_reducible rfl
                    rotate_left
                    · simp only [Act.put, List.setIfInBounds_toArray, List.set_cons_zero, List.set_cons_succ, i64_w, i32_w]
                      rfl
                    refine pure_ (i := 2) (N := some 22) (v := ?_) (a' := ?_) #[true, true, true, false, false, false, false, false, false, false, false, false] rfl rfl (any_of HT_.out (by kernel_rfl)) (fun _ _ _ h => h) (Or.inl ⟨by rfl, ?_⟩) ?_ ?_
                    rotate_left
                    · intro w'
                      go_simp
                      with_reducible rfl
                    rotate_left
                    · simp only [Act.put, List.setIfInBounds_toArray, List.set_cons_zero, List.set_cons_succ, i64_w, i32_w]
                      rfl
                    refine pure_ (i := 3) (N := some 23) (v := ?_) (a' := ?_) #[true, true, true, true, false, false, false, false, false, false, false, false] rfl rfl (any_of HT_.out (by kernel_rfl)) (fun _ _ _ h => h) (Or.inl ⟨by rfl, ?_⟩) ?_ ?_
                    rotate_left
                    · intro w'
                      go_simp
                      with_reducible rfl
                    rotate_left
                    · simp only [Act.put, List.setIfInBounds_toArray, List.set_cons_zero, List.set_cons_succ, i64_w, i32_w]
                      rfl
                    refine pure_ (i := 4) (N := some 24) (v := ?_) (a' := ?_) #[true, true, true, true, true, false, false, false, false, false, false, false] rfl rfl (any_of HT_.out (by kernel_rfl)) (fun _ _ _ h => h) (Or.inl ⟨by rfl, ?_⟩) ?_ ?_
                    rotate_left
                    · intro w'
                      go_simp
                      with_reducible rfl
                    rotate_left
                    · simp only [Act.put, List.setIfInBounds_toArray, List.set_cons_zero, List.set_cons_succ, i64_w, i32_w]
                      rfl
                    refine pure_ (i := 6) (N := some 26) (v := ?_) (a' := ?_) #[true, true, true, true, true, false, true, false, false, false, false, false] rfl rfl (any_of HT_.out (by kernel_rfl)) (fun _ _ _ h => h) (Or.inl ⟨by rfl, ?_⟩) ?_ ?_
                    rotate_left
                    · intro w'
                      go_simp
                      with_reducible rfl
                    rotate_left
                    · simp only [Act.put, List.setIfInBounds_toArray, List.set_cons_zero, List.set_cons_succ, i64_w, i32_w]
                      rfl
                    refine pure_ (i := 7) (N := some 27) (v := ?_) (a' := ?_) #[true, true, true, true, true, false, true, true, false, false, false, false] rfl rfl (any_of HT_.out (by kernel_rfl)) (fun _ _ _ h => h) (Or.inl ⟨by rfl, ?_⟩) ?_ ?_
                    rotate_left
                    · intro w'
                      go_simp
                      with_reducible rfl
                    rotate_left
                    · simp only [Act.put, List.setIfInBounds_toArray, List.set_cons_zero, List.set_cons_succ, i64_w, i32_w]
                      rfl
                    refine take_ (i := 5) (N := some 25) (v := ?_) (a' := ?_) #[true, true, true, true, true, true, true, true, false, false, false, false] rfl rfl (take_ofW HT_.out HW_.out (by kernel_rfl)) (fun _ _ _ h => h) (Or.inl ⟨by rfl, ?_⟩) hHeld ?_ ?_
                    rotate_left
                    · rintro w' ⟨s0, s1⟩
                      go_simp
                      with_reducible rfl
                    rotate_left
                    · simp only [Act.put, List.setIfInBounds_toArray, List.set_cons_zero, List.set_cons_succ, i64_w, i32_w]
                      rfl
                    refine take_ (i := 8) (N := some 28) (v := ?_) (a' := ?_) #[true, true, true, true, true, true, true, true, true, false, false, false] rfl rfl (take_ofW HT_.out HW_.out (by kernel_rfl)) (fun _ _ _ h => h) (Or.inl ⟨by rfl, ?_⟩) hHeld ?_ ?_
                    rotate_left
                    · rintro w' ⟨s0, s1⟩
                      go_simp
                      with_reducible rfl
                    rotate_left
                    · simp only [Act.put, List.setIfInBounds_toArray, List.set_cons_zero, List.set_cons_succ, i64_w, i32_w]
                      rfl
                    refine one_ (i := 9) (N := some 29) #[true, true, true, true, true, true, true, true, true, true, false, false] rfl rfl (one_of HT_.out (by kernel_rfl)) (by decide) (fun K hK => ?_)
                    refine goes_ Tryz.func70 (by kernel_rfl) rfl #[.agg #[.int .u8 x110000_1, .int .u8 x110001_1], .int .u8 (bt a0 x2_1)] (by rfl) rfl rfl (by simp only [List.map_toArray, List.map_cons, List.map_nil] <;> rfl) ?_
                    with_reducible refine (utf_span_has.calls x110000_1 x110001_1 (bt a0 x2_1) true _ A16.out).mono ?_
                    rintro e w19 ⟨rfl, hb⟩
                    refine ⟨_, rfl, ?_⟩
                    have n0_ := Aside0.mk (blk_below (g := gb109) (o := .cells #[.int .u8 x110000_1, .int .u8 x110001_1] 104 (0, 0)) (by (with_reducible repeat (first | refine blk_drewN ?_ _ | refine blk_drew ?_ | refine blk_alloc ?_ _)); exact BK109.out) hb)
                    have n1_ := Aside0.mk (below_step (by repeat (first | (with_reducible first | exact HB.out | apply below_alloc | apply pw_below_drewN | apply below_drew1 | refine below_set ?_ GE109.out) | exact HB.out)) hb)
                    clear BK109
                    clear HB
                    have BK109 := n0_
                    have HB := n1_
                    clear n0_ n1_
                    (try clear hb)
                    (try clear hb2)
                    (try clear hk)
                    (try clear hi)
                    refine hK.out _ _ ⟨(blk_cell BK109.out 0).trans rfl, (blk_cell BK109.out 1).trans rfl⟩ (fun hHeld => ?_)
                    clear hK K
                    refine norm_ (a' := ?_) ?_ ?_
                    rotate_left
                    · show Act.put _ (some 29) _ = _
                      simp only [Act.put, List.setIfInBounds_toArray, List.set_cons_zero, List.set_cons_succ, i64_w, i32_w]
                      rfl
                    refine pure_ (i := 10) (N := some 30) (v := ?_) (a' := ?_) #[true, true, true, true, true, true, true, true, true, true, true, false] rfl rfl (any_of HT_.out (by kernel_rfl)) (fun _ _ _ h => h) (Or.inl ⟨by rfl, ?_⟩) ?_ ?_
                    rotate_left
                    · intro w'
                      go_simp
                      with_reducible rfl
                    rotate_left
                    · simp only [Act.put, List.setIfInBounds_toArray, List.set_cons_zero, List.set_cons_succ, i64_w, i32_w]
                      rfl
                    refine pure_ (i := 11) (N := some 31) (v := ?_) (a' := ?_) #[true, true, true, true, true, true, true, true, true, true, true, true] rfl rfl (any_of HT_.out (by kernel_rfl)) (fun _ _ _ h => h) (Or.inl ⟨by rfl, ?_⟩) ?_ ?_
                    rotate_left
                    · intro w'
                      go_simp
                      with_reducible rfl
                    rotate_left
                    · simp only [Act.put, List.setIfInBounds_toArray, List.set_cons_zero, List.set_cons_succ, i64_w, i32_w]
                      rfl
                    refine done_ (done_of HT_.out (by kernel_rfl)) ?_
                    have hcz20_0 : w19.cell? ⟨gb109, 0, none⟩ = some (.int .u8 x110000_1) := (blk_cell BK109.out 0).trans rfl
                    have hcz20_1 : w19.cell? ⟨gb109, 1, none⟩ = some (.int .u8 x110001_1) := (blk_cell BK109.out 1).trans rfl
                    have hfz20_0 := blk_frozen BK109.out 0
                    have hfz20_1 := blk_frozen BK109.out 1
                    try go_wp2
                    go_roundg k1
                    case measure => have := HK1.out; omega
                    case rel => exact ⟨(wrap64 (x2_1 + 1)), (128), (191), (by first | rfl | (simp; done) | (simp [*]; done)), H', ⟨by have := HK1.out; omega⟩, ⟨by (with_reducible repeat (first | refine blk_drewN ?_ _ | refine blk_drew ?_ | refine blk_alloc ?_ _)); refine blk_put (cs := #[.int .u8 128, .int .u8 x110001_1]) ?_ 1 _ rfl; (with_reducible repeat (first | refine blk_drewN ?_ _ | refine blk_drew ?_ | refine blk_alloc ?_ _)); refine blk_put (cs := #[.int .u8 x110000_1, .int .u8 x110001_1]) ?_ 0 _ rfl; (with_reducible repeat (first | refine blk_drewN ?_ _ | refine blk_drew ?_ | refine blk_alloc ?_ _)); exact BK109.out⟩, ⟨by repeat (first | (with_reducible first | exact HB.out | apply below_alloc | apply pw_below_drewN | apply below_drew1 | refine below_set ?_ GE109.out) | exact HB.out)⟩⟩
                  · replace c17 := Bool.eq_false_iff.mpr c17
                    subst c17
                    rw [if_neg (show ¬ (false = true) by decide)] at H
                    simp only [Option.some.injEq, Prod.mk.injEq] at H
                    obtain ⟨rfl, rfl⟩ := H
                    try go_wp2
                    have n0_ := Aside0.mk (blk_drew BK109.out)
                    have n1_ := Aside0.mk (below_drew1 HB.out)
                    clear BK109
                    clear HB
                    have BK109 := n0_
                    have HB := n1_
                    clear n0_ n1_
                    have p15 : 0 ≤ (x2_1 : Int) := of_decide_eq_true (by first | (with_reducible assumption) | assumption)
                    have q15 : x2_1 < (a0.size : Int) := of_decide_eq_true (by first | (with_reducible assumption) | assumption)
                    have hx15 := bt_at a0 x2_1
                    replace p15 := eq_true p15
                    replace q15 := eq_true q15
                    refine start_ (n := 12) (S := fun w' => w'.cell? ⟨gb109, 0, none⟩ = some (.int .u8 x110000_1) ∧ w'.cell? ⟨gb109, 1, none⟩ = some (.int .u8 x110001_1)) (ds := []) #[false, false, false, false, false, false, false, false, false, false, false, false] (by kernel_rfl) rfl rfl ⟨(blk_cell BK109.out 0).trans rfl, (blk_cell BK109.out 1).trans rfl⟩ (fun hHeld => ?_); refine with_tabW utf_first.tab7 utf_first.bits7 (fun HT_ HW_ => ?_)
                    generalize wr.drew = w21 at BK109 HB hHeld ⊢
                    refine pure_ (i := 0) (N := some 20) (v := ?_) (a' := ?_) #[true, false, false, false, false, false, false, false, false, false, false, false] rfl rfl (any_of HT_.out (by kernel_rfl)) (fun _ _ _ h => h) (Or.inl ⟨by rfl, ?_⟩) ?_ ?_
                    rotate_left
                    · intro w'
                      go_simp
                      with_reducible rfl
                    rotate_left
                    · simp only [Act.put, List.setIfInBounds_toArray, List.set_cons_zero, List.set_cons_succ, i64_w, i32_w]
                      rfl
                    refine pure_ (i := 1) (N := some 21) (v := ?_) (a' := ?_) #[true, true, false, false, false, false, false, false, false, false, false, false] rfl rfl (any_of HT_.out (by kernel_rfl)) (fun _ _ _ h => h) (Or.inl ⟨by rfl, ?_⟩) ?_ ?_
                    rotate_left
                    · intro w'
                      go_simp
                      with_reducible rfl
                    rotate_left
                    · simp only [Act.put, List.setIfInBounds_toArray, List.set_cons_zero, List.set_cons_succ, i64_w, i32_w]
                      rfl
                    refine pure_ (i := 2) (N := some 22) (v := ?_) (a' := ?_) #[true, true, true, false, false, false, false, false, false, false, false, false] rfl rfl (any_of HT_.out (by kernel_rfl)) (fun _ _ _ h => h) (Or.inl ⟨by rfl, ?_⟩) ?_ ?_
                    rotate_left
                    · intro w'
                      go_simp
                      with_reducible rfl
                    rotate_left
                    · simp only [Act.put, List.setIfInBounds_toArray, List.set_cons_zero, List.set_cons_succ, i64_w, i32_w]
                      rfl
                    refine pure_ (i := 3) (N := some 23) (v := ?_) (a' := ?_) #[true, true, true, true, false, false, false, false, false, false, false, false] rfl rfl (any_of HT_.out (by kernel_rfl)) (fun _ _ _ h => h) (Or.inl ⟨by rfl, ?_⟩) ?_ ?_
                    rotate_left
                    · intro w'
                      go_simp
                      with_reducible rfl
                    rotate_left
                    · simp only [Act.put, List.setIfInBounds_toArray, List.set_cons_zero, List.set_cons_succ, i64_w, i32_w]
                      rfl
                    refine pure_ (i := 4) (N := some 24) (v := ?_) (a' := ?_) #[true, true, true, true, true, false, false, false, false, false, false, false] rfl rfl (any_of HT_.out (by kernel_rfl)) (fun _ _ _ h => h) (Or.inl ⟨by rfl, ?_⟩) ?_ ?_
                    rotate_left
                    · intro w'
                      go_simp
                      with_reducible rfl
                    rotate_left
                    · simp only [Act.put, List.setIfInBounds_toArray, List.set_cons_zero, List.set_cons_succ, i64_w, i32_w]
                      rfl
                    refine pure_ (i := 6) (N := some 26) (v := ?_) (a' := ?_) #[true, true, true, true, true, false, true, false, false, false, false, false] rfl rfl (any_of HT_.out (by kernel_rfl)) (fun _ _ _ h => h) (Or.inl ⟨by rfl, ?_⟩) ?_ ?_
                    rotate_left
                    · intro w'
                      go_simp
                      with_reducible rfl
                    rotate_left
                    · simp only [Act.put, List.setIfInBounds_toArray, List.set_cons_zero, List.set_cons_succ, i64_w, i32_w]
                      rfl
                    refine pure_ (i := 7) (N := some 27) (v := ?_) (a' := ?_) #[true, true, true, true, true, false, true, true, false, false, false, false] rfl rfl (any_of HT_.out (by kernel_rfl)) (fun _ _ _ h => h) (Or.inl ⟨by rfl, ?_⟩) ?_ ?_
                    rotate_left
                    · intro w'
                      go_simp
                      with_reducible rfl
                    rotate_left
                    · simp only [Act.put, List.setIfInBounds_toArray, List.set_cons_zero, List.set_cons_succ, i64_w, i32_w]
                      rfl
                    refine take_ (i := 5) (N := some 25) (v := ?_) (a' := ?_) #[true, true, true, true, true, true, true, true, false, false, false, false] rfl rfl (take_ofW HT_.out HW_.out (by kernel_rfl)) (fun _ _ _ h => h) (Or.inl ⟨by rfl, ?_⟩) hHeld ?_ ?_
                    rotate_left
                    · rintro w' ⟨s0, s1⟩
                      go_simp
                      with_reducible rfl
                    rotate_left
                    · simp only [Act.put, List.setIfInBounds_toArray, List.set_cons_zero, List.set_cons_succ, i64_w, i32_w]
                      rfl
                    refine take_ (i := 8) (N := some 28) (v := ?_) (a' := ?_) #[true, true, true, true, true, true, true, true, true, false, false, false] rfl rfl (take_ofW HT_.out HW_.out (by kernel_rfl)) (fun _ _ _ h => h) (Or.inl ⟨by rfl, ?_⟩) hHeld ?_ ?_
                    rotate_left
                    · rintro w' ⟨s0, s1⟩
                      go_simp
                      with_reducible rfl
                    rotate_left
                    · simp only [Act.put, List.setIfInBounds_toArray, List.set_cons_zero, List.set_cons_succ, i64_w, i32_w]
                      rfl
                    refine one_ (i := 9) (N := some 29) #[true, true, true, true, true, true, true, true, true, true, false, false] rfl rfl (one_of HT_.out (by kernel_rfl)) (by decide) (fun K hK => ?_)
                    refine goes_ Tryz.func70 (by kernel_rfl) rfl #[.agg #[.int .u8 x110000_1, .int .u8 x110001_1], .int .u8 (bt a0 x2_1)] (by rfl) rfl rfl (by simp only [List.map_toArray, List.map_cons, List.map_nil] <;> rfl) ?_
                    with_reducible refine (utf_span_has.calls x110000_1 x110001_1 (bt a0 x2_1) false _ A16.out).mono ?_
                    rintro e w22 ⟨rfl, hb⟩
                    refine ⟨_, rfl, ?_⟩
                    have n0_ := Aside0.mk (blk_below (g := gb109) (o := .cells #[.int .u8 x110000_1, .int .u8 x110001_1] 104 (0, 0)) (by (with_reducible repeat (first | refine blk_drewN ?_ _ | refine blk_drew ?_ | refine blk_alloc ?_ _)); exact BK109.out) hb)
                    have n1_ := Aside0.mk (below_step (by repeat (first | (with_reducible first | exact HB.out | apply below_alloc | apply pw_below_drewN | apply below_drew1 | refine below_set ?_ GE109.out) | exact HB.out)) hb)
                    clear BK109
                    clear HB
                    have BK109 := n0_
                    have HB := n1_
                    clear n0_ n1_
                    (try clear hb)
                    (try clear hb2)
                    (try clear hk)
                    (try clear hi)
                    refine hK.out _ _ ⟨(blk_cell BK109.out 0).trans rfl, (blk_cell BK109.out 1).trans rfl⟩ (fun hHeld => ?_)
                    clear hK K
                    refine norm_ (a' := ?_) ?_ ?_
                    rotate_left
                    · show Act.put _ (some 29) _ = _
                      simp only [Act.put, List.setIfInBounds_toArray, List.set_cons_zero, List.set_cons_succ, i64_w, i32_w]
                      rfl
                    refine pure_ (i := 10) (N := some 30) (v := ?_) (a' := ?_) #[true, true, true, true, true, true, true, true, true, true, true, false] rfl rfl (any_of HT_.out (by kernel_rfl)) (fun _ _ _ h => h) (Or.inl ⟨by rfl, ?_⟩) ?_ ?_
                    rotate_left
                    · intro w'
                      go_simp
                      with_reducible rfl
                    rotate_left
                    · simp only [Act.put, List.setIfInBounds_toArray, List.set_cons_zero, List.set_cons_succ, i64_w, i32_w]
                      rfl
                    refine pure_ (i := 11) (N := some 31) (v := ?_) (a' := ?_) #[true, true, true, true, true, true, true, true, true, true, true, true] rfl rfl (any_of HT_.out (by kernel_rfl)) (fun _ _ _ h => h) (Or.inl ⟨by rfl, ?_⟩) ?_ ?_
                    rotate_left
                    · intro w'
                      go_simp
                      with_reducible rfl
                    rotate_left
                    · simp only [Act.put, List.setIfInBounds_toArray, List.set_cons_zero, List.set_cons_succ, i64_w, i32_w]
                      rfl
                    refine done_ (done_of HT_.out (by kernel_rfl)) ?_
                    try go_wp2
                    go_ret2
                    exact ⟨by first | rfl | (simp [*] <;> rfl), by repeat (first | (with_reducible first | exact HB.out | apply below_alloc | apply pw_below_drewN | apply below_drew1 | refine below_set ?_ GE109.out) | exact HB.out)⟩
                · rw [if_neg c14] at H
                  exact absurd H (by simp)
              · rw [if_neg c13] at H
                exact absurd H (by simp)
          · rw [if_neg c10] at H
            have c10b0 : decide (x2_1 < t108) = false := decide_eq_false c10
            clear c10
            simp only [Option.some.injEq, Prod.mk.injEq] at H
            obtain ⟨rfl, rfl⟩ := H
            go_wp2
            go_ret2
            exact ⟨by first | rfl | (simp [*] <;> rfl), by repeat (first | (with_reducible first | exact HB.out | apply below_alloc | apply pw_below_drewN | apply below_drew1 | refine below_set ?_ GE109.out) | exact HB.out)⟩
  · rw [if_neg c2] at H
    exact absurd H (by simp)
end Go.Proofs.YteccaekalcjihaaGreatDoor.PTn
set_option linter.unusedVariables false
namespace Go.Proofs.YteccaekalcjihaaGreatDoor.Buf
open Go.RowKit Go.Lib
theorem below_then0 {w w1 w2 : World} (h : Below w.heap.size w w1) (h2 : Below w1.heap.size w1 w2) : Below w.heap.size w w2 := h.trans (h2.mono h.size)
def Holds (w w' : World) (out : List UInt8) : Prop :=
  ∃ cs v, cs.size = 2 ∧ At w' 44 w.heap.size cs v ∧ w'.ownsRowF 0 5 1 v out.length (byteCells out) ∧ v.ownBlock ≠ some w.heap.size ∧ (∀ k, v.ownBlock = some k → w.heap.size ≤ k) ∧ Below w.heap.size w w'
theorem lies2 : liesAt Tryz.prog Tryz.prog.depth 44 (2 / Tryz.prog.cellsOf 44) 0 44 1 = true := by kernel_rfl
theorem neB : (44 : TypeId) ≠ 5 := by decide
theorem Holds.kept {w w1 w2 : World} {out : List UInt8} (h : Holds w w1 out) (hb : Below w1.heap.size w1 w2) : Holds w w2 out := by
  obtain ⟨cs, v, hz, hat, hown, hne, hnew, hbel⟩ := h
  have hk : Kp (fun _ => False) w1 w2 := Kp.of_below hb _
  refine ⟨cs, v, hz, ⟨(hb.block _ (lt_of_heap hat.heap)).trans hat.heap, hat.addr, hat.buf, hat.lies⟩, ownsF_kp hown hk (fun _ _ h => h), hne, hnew, below_then0 hbel hb⟩
theorem Holds.write {w w1 : World} {out : List UInt8} (h : Holds w w1 out) (s : ByteArray) (hlen : out.length + s.size ≤ 100000000000) :
    Calls Tryz.prog 26 #[.pointer (some ⟨w.heap.size, 0, none⟩), .string s] w1 fun e w2 => e = .returned (.tuple #[.int .i64 s.size, .nilIface]) ∧ Holds w w2 (out ++ s.data.toList) := by
  obtain ⟨cs, v, hz, hat, hown, hne, hnew, hbel⟩ := h
  have hl : (byteCells out).length = out.length := by simp [byteCells]
  refine (writeString_at hat (bs := byteCells out) (by rw [hl]; exact hown) hne neB s (by rw [hl]; omega)).mono ?_
  rintro e w2 ⟨rfl, v', hb2, hown2, hnew2, hne2, hk⟩
  rw [hl] at hown2
  refine ⟨rfl, _, v', ?_, ⟨hb2, ?_, ?_, ?_⟩, ?_, hne2, ?_, ?_⟩
  · simp [hz]
  · right
    simp [hz]
  · simp [hz]
  · simp only [Array.size_setIfInBounds, hz]
    exact lies2
  · have e1 : (out ++ s.data.toList).length = out.length + s.size := by simp
    rw [e1, byteCells_append]
    exact hown2
  · intro k hk'
    rcases hnew2 k hk' with h | h
    · exact hnew k h
    · exact Nat.le_trans hbel.size h
  · refine ⟨hk.os.trans hbel.os, hk.tape.trans hbel.tape, hk.output.trans hbel.output, Nat.le_trans hbel.size hk.size, fun k hk' => ?_⟩
    refine (hk.block k (Nat.lt_of_lt_of_le hk' hbel.size) ?_).trans (hbel.block k hk')
    rintro (rfl | h)
    · omega
    · have := hnew k h
      omega
theorem Holds.done {w w1 : World} {out : List UInt8} (h : Holds w w1 out) :
    Calls Tryz.prog 22 #[.pointer (some ⟨w.heap.size, 0, none⟩)] w1 fun e w2 => e = .returned (.string ⟨out.toArray⟩) ∧ Below w.heap.size w w2 := by
  obtain ⟨cs, v, hz, hat, hown, hne, hnew, hbel⟩ := h
  refine (string_at hat.heap hat.buf hown hne).mono ?_
  rintro e w2 ⟨rfl, hb2, hown2, hk⟩
  refine ⟨rfl, hk.os.trans hbel.os, hk.tape.trans hbel.tape, hk.output.trans hbel.output, Nat.le_trans hbel.size hk.size, fun k hk' => ?_⟩
  refine (hk.block k (Nat.lt_of_lt_of_le hk' hbel.size) ?_).trans (hbel.block k hk')
  intro h
  have := hnew k h
  omega
theorem Holds.fresh (w : World) : Holds w (w.alloc (.cells #[.pointer none, .slice none 0 0] 44 (0, 0))) [] := by
  refine ⟨#[.pointer none, .slice none 0 0], .slice none 0 0, rfl, ⟨by show (w.heap.push _)[w.heap.size]? = _; simp, Or.inl (by simp), by simp, by rw [show (#[Value.pointer none, Value.slice none 0 0] : Array Value).size = 2 from rfl]; exact lies2⟩, World.ownsRowF_nil _ _ _ _, by simp [Value.ownBlock], by simp [Value.ownBlock], (Below.refl _ _).alloc (Nat.le_refl _) _⟩
theorem Holds.writeByte {w w1 : World} {out : List UInt8} (h : Holds w w1 out) (c : UInt8) (hlen : out.length + 1 ≤ 100000000000) :
    Calls Tryz.prog 23 #[.pointer (some ⟨w.heap.size, 0, none⟩), .int .u8 (c.toNat : Int)] w1 fun e w2 => e = .returned .nilIface ∧ Holds w w2 (out ++ [c]) := by
  obtain ⟨cs, v, hz, hat, hown, hne, hnew, hbel⟩ := h
  have hl : (byteCells out).length = out.length := by simp [byteCells]
  refine (writeByte_at hat (bs := byteCells out) (by rw [hl]; exact hown) hne neB (c.toNat : Int) (by rw [hl]; omega)).mono ?_
  rintro e w2 ⟨rfl, v', hb2, hown2, hnew2, hne2, hk⟩
  rw [hl] at hown2
  refine ⟨rfl, _, v', ?_, ⟨hb2, ?_, ?_, ?_⟩, ?_, hne2, ?_, ?_⟩
  · simp [hz]
  · right
    simp [hz]
  · simp [hz]
  · simp only [Array.size_setIfInBounds, hz]
    exact lies2
  · have e1 : (out ++ [c]).length = out.length + 1 := by simp
    rw [e1, byteCells_append]
    exact hown2
  · intro k hk'
    rcases hnew2 k hk' with h | h
    · exact hnew k h
    · exact Nat.le_trans hbel.size h
  · refine ⟨hk.os.trans hbel.os, hk.tape.trans hbel.tape, hk.output.trans hbel.output, Nat.le_trans hbel.size hk.size, fun k hk' => ?_⟩
    refine (hk.block k (Nat.lt_of_lt_of_le hk' hbel.size) ?_).trans (hbel.block k hk')
    rintro (rfl | h)
    · omega
    · have := hnew k h
      omega
end Go.Proofs.YteccaekalcjihaaGreatDoor.Buf
namespace Go.Proofs.YteccaekalcjihaaGreatDoor.Spec
def tailP (c : Nat) : Nat × Nat × Nat :=
  if 194 ≤ c ∧ c ≤ 223 then (128, 191, 2) else if c = 224 then (160, 191, 3) else if c = 237 then (128, 159, 3) else if 225 ≤ c ∧ c ≤ 239 then (128, 191, 3)
  else if c = 240 then (144, 191, 4) else if c = 244 then (128, 143, 4) else if 241 ≤ c ∧ c ≤ 243 then (128, 191, 4) else (128, 191, 1)
def goP : Nat → Nat → Nat → List UInt8 → Nat × Bool
  | 0, _, _, _ => (0, true)
  | _ + 1, _, _, [] => (0, false)
  | m + 1, lo, hi, x :: t => if lo ≤ x.toNat ∧ x.toNat ≤ hi then ((goP m 128 191 t).1 + 1, (goP m 128 191 t).2) else (0, false)
def firstP : List UInt8 → Nat × Bool
  | [] => (1, false)
  | c :: t => if c.toNat < 128 then (1, true) else ((goP ((tailP c.toNat).2.2 - 1) (tailP c.toNat).1 (tailP c.toNat).2.1 t).1 + 1, (goP ((tailP c.toNat).2.2 - 1) (tailP c.toNat).1 (tailP c.toNat).2.1 t).2 && decide (1 < (tailP c.toNat).2.2))
def bad : List UInt8 := [239, 191, 189]
theorem goP_le (m lo hi : Nat) (l : List UInt8) : (goP m lo hi l).1 ≤ m ∧ (goP m lo hi l).1 ≤ l.length := by
  induction m generalizing lo hi l with
  | zero => simp [goP]
  | succ m ih =>
    cases l with
    | nil => simp [goP]
    | cons x t =>
      have := ih 128 191 t
      unfold goP
      split
      · simp
        omega
      · simp
theorem tail_n (c : Nat) : 1 ≤ (tailP c).2.2 ∧ (tailP c).2.2 ≤ 4 := by
  unfold tailP
  repeat' split
  all_goals simp
theorem first_le (l : List UInt8) (h : l ≠ []) : 1 ≤ (firstP l).1 ∧ (firstP l).1 ≤ l.length ∧ (firstP l).1 ≤ 4 := by
  cases l with
  | nil => exact absurd rfl h
  | cons c t =>
    by_cases hc : c.toNat < 128
    · simp only [firstP, if_pos hc, List.length_cons]
      omega
    · have h1 := goP_le ((tailP c.toNat).2.2 - 1) (tailP c.toNat).1 (tailP c.toNat).2.1 t
      have h2 := tail_n c.toNat
      simp only [firstP, if_neg hc, List.length_cons]
      omega
def decK : Nat → List UInt8 → List UInt8
  | 0, _ => []
  | _ + 1, [] => []
  | k + 1, c :: t => (if (firstP (c :: t)).2 = true then (c :: t).take (firstP (c :: t)).1 else bad) ++ decK k ((c :: t).drop (firstP (c :: t)).1)
theorem decK_more : ∀ (k j : Nat) (l : List UInt8), l.length ≤ k → l.length ≤ j → decK k l = decK j l
  | 0, j, l, h, _ => by
    obtain rfl : l = [] := List.length_eq_zero_iff.mp (by omega)
    cases j <;> rfl
  | k + 1, 0, l, _, h => by
    obtain rfl : l = [] := List.length_eq_zero_iff.mp (by omega)
    rfl
  | k + 1, j + 1, [], _, _ => rfl
  | k + 1, j + 1, c :: t, h1, h2 => by
    have hf := first_le (c :: t) (by simp)
    simp only [decK]
    rw [decK_more k j _ (by simp at h1 ⊢; omega) (by simp at h2 ⊢; omega)]
def dec (l : List UInt8) : List UInt8 := decK l.length l
theorem dec_nil : dec [] = [] := rfl
theorem dec_step (l : List UInt8) (h : l ≠ []) : dec l = (if (firstP l).2 = true then l.take (firstP l).1 else bad) ++ dec (l.drop (firstP l).1) := by
  cases l with
  | nil => exact absurd rfl h
  | cons c t =>
    have hf := first_le (c :: t) (by simp)
    show decK (t.length + 1) (c :: t) = _
    simp only [decK]
    rw [decK_more t.length _ _ (by simp; omega) (Nat.le_refl _)]
    rfl
def trim (l : List UInt8) : List UInt8 := if l.take 3 = [239, 187, 191] then l.drop 3 else l
def decode (l : List UInt8) : List UInt8 := dec (trim l)
end Go.Proofs.YteccaekalcjihaaGreatDoor.Spec
set_option linter.unusedVariables false
namespace Go.Proofs.YteccaekalcjihaaGreatDoor.PTn
open Go.RowKit Go.Lib Go.Proofs.YteccaekalcjihaaGreatDoor.Buf Go.Proofs.YteccaekalcjihaaGreatDoor.Spec Go.Proofs.YteccaekalcjihaaGreatDoorW.PrintWords Go.Proofs.YteccaekalcjihaaGreatDoorW.PrintMore
theorem btD_at {s : ByteArray} {i : Nat} (h : i < s.size) : bt s (i : Int) = ((s.data.toList[i]'(by simpa using h)).toNat : Int) := by
  unfold bt
  have h' : ((i : Int).toNat) < s.size := by simpa using h
  rw [dif_pos h']
  simp [ByteArray.getElem_eq_getElem_data]
theorem tail_256 : ∀ c : Nat, c < 256 → utf_tail.f 10 (c : Int) = some (((tailP c).1 : Int), ((tailP c).2.1 : Int), ((tailP c).2.2 : Int)) := by
  intro c hc
  have h : ∀ c : Fin 256, utf_tail.f 10 ((c.val : Nat) : Int) = some (((tailP c.val).1 : Int), ((tailP c.val).2.1 : Int), ((tailP c.val).2.2 : Int)) := by decide +kernel
  exact h ⟨c, hc⟩
theorem has_at (lo hi x : Nat) : utf_span_has.f (lo : Int) (hi : Int) (x : Int) = some (decide (lo ≤ x ∧ x ≤ hi)) := by
  unfold utf_span_has.f
  by_cases h : lo ≤ x
  · rw [if_pos (by omega)]
    by_cases h2 : x ≤ hi
    · rw [decide_eq_true (by omega), decide_eq_true ⟨h, h2⟩]
    · rw [decide_eq_false (by omega), decide_eq_false (by omega)]
  · rw [if_neg (by omega), decide_eq_false (by omega)]
theorem first_l0 (s : ByteArray) (m : Nat) : ∀ (k i lo hi n : Nat), 1 ≤ i → i ≤ s.size → n = i + m → m < k → n ≤ 4 →
    utf_first.l0 k s (i : Int) (n : Int) (lo : Int) (hi : Int) = some (((i + (goP m lo hi (s.data.toList.drop i)).1 : Nat) : Int), (goP m lo hi (s.data.toList.drop i)).2 && decide (1 < n)) := by
  have hsl : s.data.toList.length = s.size := by simp
  induction m with
  | zero =>
    intro k i lo hi n h1 h2 hn hk h4
    obtain ⟨k, rfl⟩ : ∃ m, k = m + 1 := ⟨k - 1, by omega⟩
    simp only [utf_first.l0, goP]
    rw [if_neg (by omega)]
    simp
    congr 1
    by_cases hh : 1 < n
    · simp [hh]; omega
    · simp [hh]; omega
  | succ m ih =>
    intro k i lo hi n h1 h2 hn hk h4
    obtain ⟨k, rfl⟩ : ∃ m, k = m + 1 := ⟨k - 1, by omega⟩
    simp only [utf_first.l0]
    rw [if_pos (by omega)]
    by_cases he : i = s.size
    · rw [if_pos (by omega)]
      have hd : s.data.toList.drop i = [] := List.drop_eq_nil_of_le (by omega)
      rw [hd]
      simp [goP]
    · have hlt : i < s.size := by omega
      have hlt' : i < s.data.toList.length := by omega
      rw [if_neg (by omega), if_pos (by omega), if_pos (by omega), btD_at hlt, has_at]
      have hd : s.data.toList.drop i = s.data.toList[i] :: s.data.toList.drop (i + 1) := List.drop_eq_getElem_cons hlt'
      rw [hd]
      simp only [Option.bind_some, goP]
      by_cases hc : lo ≤ (s.data.toList[i]).toNat ∧ (s.data.toList[i]).toNat ≤ hi
      · rw [if_pos hc, if_pos (by simpa using hc)]
        have hw : wrap64 ((i : Int) + 1) = ((i + 1 : Nat) : Int) := by
          unfold wrap64
          omega
        rw [hw]
        have := ih k (i + 1) 128 191 n (by omega) (by omega) (by omega) (by omega) h4
        rw [show ((128 : Nat) : Int) = 128 from rfl, show ((191 : Nat) : Int) = 191 from rfl] at this
        rw [this]
        simp only [Nat.add_assoc, Nat.add_comm 1]
      · rw [if_neg hc, if_neg (by simpa using hc)]
        simp
theorem first_at (s : ByteArray) (h : 0 < s.size) : utf_first.f 10 s = some (((firstP s.data.toList).1 : Int), (firstP s.data.toList).2) := by
  have hsl : s.data.toList.length = s.size := by simp
  have h0 := btD_at (s := s) (i := 0) h
  obtain ⟨c, t, hct⟩ : ∃ c t, s.data.toList = c :: t := by
    cases hs : s.data.toList with
    | nil => rw [hs] at hsl; simp at hsl; omega
    | cons c t => exact ⟨c, t, rfl⟩
  have hc0 : bt s 0 = (c.toNat : Int) := by
    rw [show (0 : Int) = ((0 : Nat) : Int) from rfl, h0]
    simp [hct]
  have hcb : c.toNat < 256 := c.toNat_lt
  unfold utf_first.f
  rw [if_pos (by omega), hc0, hct]
  by_cases hlt : c.toNat < 128
  · rw [if_pos (by omega)]
    simp only [firstP, if_pos hlt]
    rfl
  · rw [if_neg (by omega), tail_256 _ hcb]
    simp only [Option.bind_some, firstP, if_neg hlt]
    have htn := tail_n c.toNat
    have := first_l0 s ((tailP c.toNat).2.2 - 1) 10 1 (tailP c.toNat).1 (tailP c.toNat).2.1 (tailP c.toNat).2.2 (by omega) (by omega) (by omega) (by omega) htn.2
    rw [hct] at this
    rw [show ((1 : Nat) : Int) = 1 from rfl] at this
    rw [this]
    simp [Nat.add_comm]
def numsD (L : List UInt8) : List Int := L.map fun c => (c.toNat : Int)
theorem numsD_length (L : List UInt8) : (numsD L).length = L.length := by simp [numsD]
theorem strOf_nums (L : List UInt8) : strOfNums (numsD L) = ⟨L.toArray⟩ := by
  unfold strOfNums numsD
  congr 1
  apply Array.ext'
  simp
  induction L with
  | nil => rfl
  | cons c t ih =>
    simp
    exact ih
def utf_Decode.f (l0 : List Int) : Option ByteArray := if l0.length ≤ 1000000000 then some ⟨(Spec.decode (strOfNums l0).data.toList).toArray⟩ else none
theorem trim_at (s : ByteArray) (hs : s.size ≤ 1000000000) : ∃ S : ByteArray, strings_TrimPrefix.f s ⟨#[239, 187, 191]⟩ = some S ∧ S.data.toList = trim s.data.toList ∧ S.size ≤ s.size := by
  unfold strings_TrimPrefix.f stringslite_TrimPrefix.f stringslite_HasPrefix.f
  have hz : (⟨#[239, 187, 191]⟩ : ByteArray).size = 3 := rfl
  have hsl : s.data.toList.length = s.size := by simp
  simp only [hz]
  by_cases h3 : 3 ≤ s.size
  · rw [if_pos (by omega), if_pos (by omega), if_pos (by omega)]
    simp only [Option.bind_some]
    have hx : (s.extract 0 ((3 : Nat) : Int).toNat).toList = s.data.toList.take 3 := by
      rw [Lib.extract_toList]
      simp
    have hm : (⟨#[239, 187, 191]⟩ : ByteArray).toList = [239, 187, 191] := by
      rw [ByteArray.toList_eq]
    rw [hx, hm]
    unfold trim
    by_cases hc : s.data.toList.take 3 = [239, 187, 191]
    · rw [if_pos (beq_iff_eq.2 hc), if_pos (by omega), if_pos (by omega), if_pos hc]
      refine ⟨_, rfl, ?_, ?_⟩
      · rw [Lib.extract_data]
        exact List.take_of_length_le (by rw [List.length_drop, hsl]; exact Nat.le_refl _)
      · rw [ByteArray.size_extract]
        omega
    · rw [if_neg (by simpa using hc), if_neg hc]
      exact ⟨_, rfl, rfl, Nat.le_refl _⟩
  · rw [if_neg (by omega)]
    refine ⟨s, rfl, ?_, Nat.le_refl _⟩
    unfold trim
    rw [if_neg]
    intro h
    have := congrArg List.length h
    simp at this
    omega
set_option maxHeartbeats 4000000 in
set_option maxRecDepth 100000 in
theorem utf_Decode.calls (A0 : Option Addr) (c0 : Nat) (l0 : List Int) (r : ByteArray) (w : World) (hr0 : Kd.C (Kd.int .u8) w A0 l0.length l0) (hc0 : l0.length ≤ c0) (h : utf_Decode.f l0 = some r) :
    Calls Tryz.prog 7 #[.slice A0 l0.length c0] w fun e w' => e = .returned (.string r) ∧ Below w.heap.size w w' := by
  unfold utf_Decode.f at h
  by_cases hs : l0.length ≤ 1000000000
  · rw [if_pos hs] at h
    have hr := Option.some.inj h
    subst hr
    clear h
    have hz0 : (strOfNums l0).size = l0.length := by simp [strOfNums, ByteArray.size]
    obtain ⟨S0, hT, hS, hSz⟩ := trim_at (strOfNums l0) (by omega)
    have HT := Aside0.mk hT
    have HS := Aside0.mk hS
    have HSZ := Aside0.mk (show S0.size ≤ 1000000000 by omega)
    unfold Spec.decode
    rw [← hS]
    have HH := Aside0.mk (Holds.fresh w)
    have hcv := Kd.C_string (P := Tryz.prog) (A := A0) (c := c0) Tryz.underlying22 Tryz.underlying5 Tryz.underlying9 (Kd.C_alloc hr0 (.cells #[.pointer none, .slice none 0 0] 44 (0, 0)))
    clear hr0 hc0 hT hS hSz hs hz0
    go_enter Tryz.func7, Tryz.ntmps7
    go_wp2_with (go_at_call 24; (with_reducible refine (strings_TrimPrefix.calls (strOfNums l0) _ S0 _ HT.out).mono ?_); rintro e w1 ⟨rfl, ⟨nd, rfl⟩⟩)
    clear hcv
    have HH2 := Aside0.mk (Holds.kept HH.out (pw_below_drewN (Below.refl _ _) nd))
    clear HH HT HS
    go_loopg [4] (S0.size + 1) (fun kq v4 w' => ∃ (S : ByteArray) (out : List UInt8), v4 = .string S ∧ Aside0 (Holds w w' out) ∧ Aside0 (out ++ dec S.data.toList = dec S0.data.toList) ∧ Aside0 (S.size < kq) ∧ Aside0 (out.length + 3 * S.size ≤ 3000000000))
    case atStart => exact ⟨S0, [], rfl, HH2, ⟨rfl⟩, ⟨by omega⟩, ⟨by have := HSZ.out; simp; omega⟩⟩
    case round =>
      clear HH2 HSZ
      obtain ⟨S, out, rfl, HH, HD, HK, HL⟩ := hrel
      have hsl : S.data.toList.length = S.size := by simp
      by_cases hS : S.data.toList = []
      · have c1 : S.toList.isEmpty = true := by rw [ByteArray.toList_eq, hS]; rfl
        have c2 : (S.toList == []) = true := by rw [ByteArray.toList_eq, hS]; rfl
        have c3 : (S.toList != []) = false := by rw [ByteArray.toList_eq, hS]; rfl
        have HE := Aside0.mk (show out = dec S0.data.toList by
          have := HD.out
          rw [hS, dec_nil, List.append_nil] at this
          exact this)
        clear hsl hS HD
        go_wp2_with (go_at_call 22; (with_reducible refine (Holds.done HH.out).mono ?_); rintro e w1 ⟨rfl, hb⟩; have HB1 := Aside0.mk hb; clear hb)
        go_ret
        exact ⟨by rw [HE.out]; rfl, HB1.out⟩
      · have hpos : 0 < S.size := by
          have := List.length_pos_iff.2 hS
          omega
        have hf := first_le _ hS
        rw [hsl] at hf
        have hst := dec_step _ hS
        have hfa := Aside0.mk (first_at S hpos)
        cases gk with
        | zero => exact absurd HK.out (by omega)
        | succ k1 =>
          have c1 : S.toList.isEmpty = false := by
            rw [ByteArray.toList_eq]
            cases hh : S.data.toList with
            | nil => exact absurd hh hS
            | cons _ _ => rfl
          have c2 : (S.toList == []) = false := by rw [ByteArray.toList_eq]; simpa using hS
          have c3 : (S.toList != []) = true := by rw [ByteArray.toList_eq]; simpa using hS
          have hx1 : (S.extract (firstP S.data.toList).1 S.size).data.toList = S.data.toList.drop (firstP S.data.toList).1 := by
            rw [Lib.extract_data]
            exact List.take_of_length_le (by rw [List.length_drop, hsl]; exact Nat.le_refl _)
          have hx2 : (S.extract 0 (firstP S.data.toList).1).data.toList = S.data.toList.take (firstP S.data.toList).1 := by
            rw [Lib.extract_data]
            simp
          rw [← hx1, ← hx2] at hst
          have HX := Aside0.mk (show (S.extract (firstP S.data.toList).1 S.size).size = S.size - (firstP S.data.toList).1 by rw [ByteArray.size_extract]; omega)
          have HY := Aside0.mk (show (S.extract 0 (firstP S.data.toList).1).size = (firstP S.data.toList).1 by rw [ByteArray.size_extract]; omega)
          clear hx1 hx2
          have HF := Aside0.mk hf
          have HST := Aside0.mk hst
          clear hst hS hsl hpos
          generalize hn : (firstP S.data.toList).1 = n at hfa hf HF HST HX HY
          have hn1 : n ≤ S.size := hf.2.1
          have b1 : ((n : Int) ≤ (S.size : Int)) = True := eq_true (by omega)
          have b2 : (0 ≤ (n : Int)) = True := eq_true (by omega)
          clear hf hn
          cases hw : (firstP S.data.toList).2 with
          | true =>
            rw [hw] at hfa HST
            have HN := Aside0.mk (show (out ++ (S.extract 0 n).data.toList) ++ dec (S.extract n S.size).data.toList = dec S0.data.toList by
              have h1 := HD.out
              have h2 := HST.out
              rw [if_pos rfl] at h2
              rw [List.append_assoc, ← h2]
              exact h1)
            clear hw HST HD
            go_wp2_with (first | (go_at_call 25; (with_reducible refine (utf_first.calls 10 S (n : Int) true _ hfa.out).mono ?_); rintro e w1 ⟨rfl, hb⟩; have HH1 := Aside0.mk (Holds.kept HH.out hb); clear hb HH) | (go_at_call 26; (with_reducible refine (Holds.write HH1.out (S.extract 0 n) (by have := HL.out; have := HF.out; rw [HY.out]; omega)).mono ?_); rintro e w2 ⟨rfl, hb⟩; have HH2 := Aside0.mk hb; clear hb HH1))
            go_roundg k1
            case measure => omega
            case rel => exact ⟨S.extract n S.size, _, rfl, HH2, HN, ⟨by have := HK.out; have := HF.out; rw [HX.out]; omega⟩, ⟨by have h1 := HL.out; have h2 := HF.out; have h3 := HX.out; have h4 := HY.out; rw [List.length_append, Array.length_toList]; show out.length + (S.extract 0 n).size + 3 * (S.extract n S.size).size ≤ _; omega⟩⟩
          | false =>
            rw [hw] at hfa HST
            have HN := Aside0.mk (show (out ++ (⟨#[239, 191, 189]⟩ : ByteArray).data.toList) ++ dec (S.extract n S.size).data.toList = dec S0.data.toList by
              have h1 := HD.out
              have h2 := HST.out
              rw [if_neg (by decide)] at h2
              rw [List.append_assoc]
              show out ++ (bad ++ dec (S.extract n S.size).data.toList) = _
              rw [← h2]
              exact h1)
            have HBD := Aside0.mk (show out.length + (⟨#[239, 191, 189]⟩ : ByteArray).size ≤ 100000000000 from by have h1 := HL.out; show out.length + 3 ≤ 100000000000; omega)
            clear hw HST HD
            go_wp2_with (first | (go_at_call 25; (with_reducible refine (utf_first.calls 10 S (n : Int) false _ hfa.out).mono ?_); rintro e w1 ⟨rfl, hb⟩; have HH1 := Aside0.mk (Holds.kept HH.out hb); clear hb HH) | (go_at_call 26; (with_reducible refine (Holds.write HH1.out ⟨#[239, 191, 189]⟩ HBD.out).mono ?_); rintro e w2 ⟨rfl, hb⟩; have HH2 := Aside0.mk hb; clear hb HH1))
            go_roundg k1
            case measure => omega
            case rel => exact ⟨S.extract n S.size, _, rfl, HH2, HN, ⟨by have := HK.out; have := HF.out; rw [HX.out]; omega⟩, ⟨by have h1 := HL.out; have h2 := HF.out; have h3 := HX.out; rw [List.length_append]; show out.length + 3 + 3 * (S.extract n S.size).size ≤ _; omega⟩⟩
  · rw [if_neg hs] at h
    exact absurd h (by simp)
end Go.Proofs.YteccaekalcjihaaGreatDoor.PTn
set_option linter.unusedVariables false
namespace Go.Proofs.YteccaekalcjihaaGreatDoor.PTn
open Go.RowKit Go.Lib Go.Proofs.YteccaekalcjihaaGreatDoor.Buf Go.Proofs.YteccaekalcjihaaGreatDoorW.PrintWords
def normL : Nat → List UInt8 → List UInt8
  | 0, _ => []
  | _ + 1, [] => []
  | k + 1, c :: t => if c = 13 then 10 :: normL k (match t with | 10 :: t' => t' | _ => t) else c :: normL k t
def lines_Norm.f (a0 : ByteArray) : Option ByteArray := if a0.size ≤ 1000000000 then some ⟨(normL (a0.size + 1) a0.data.toList).toArray⟩ else none
theorem write_lf {w w1 : World} {out : List UInt8} (h : Holds w w1 out) (hlen : out.length + 1 ≤ 100000000000) :
    Calls Tryz.prog 23 #[.pointer (some ⟨w.heap.size, 0, none⟩), .int .u8 10] w1 fun e w2 => e = .returned .nilIface ∧ Holds w w2 (out ++ [10]) := Holds.writeByte h 10 hlen
set_option maxHeartbeats 4000000 in
set_option maxRecDepth 100000 in
theorem lines_Norm.calls (a0 : ByteArray) (r : ByteArray) (w : World) (h : lines_Norm.f a0 = some r) :
    Calls Tryz.prog 6 #[.string a0] w fun e w' => e = .returned (.string r) ∧ Below w.heap.size w w' := by
  unfold lines_Norm.f at h
  split at h
  · rename_i hs
    have hr := Aside0.mk (Option.some.inj h)
    have HH0 := Aside0.mk (Holds.fresh w)
    have HS := Aside0.mk hs
    clear h hs
    go_enter Tryz.func6, Tryz.ntmps6
    go_wp2
    refine wp_scope_ghost 0 (fun kq a' w' => ∃ (i : Nat) (out : List UInt8) (u5 u6 u7 u8 u9 u10 u11 u12 u13 u14 u15 u16 u17 u18 u19 u20 u21 u22 u23 u24 u25 u26 u27 u28 u29 u30 u31 u32 u33 u34 : Value), a' = { tmps := #[.string a0, undef, .string ⟨#[]⟩, .pointer (some ⟨w.heap.size, 0, none⟩), .int .i64 i, u5, u6, u7, u8, u9, u10, u11, u12, u13, u14, u15, u16, u17, u18, u19, u20, u21, u22, u23, u24, u25, u26, u27, u28, u29, u30, u31, u32, u33, u34], defers := [] } ∧ Aside0 (Holds w w' out) ∧ Aside0 (out ++ normL kq (a0.data.toList.drop i) = normL (a0.size + 1) a0.data.toList) ∧ Aside0 (i ≤ a0.size) ∧ Aside0 (a0.size < i + kq) ∧ Aside0 (out.length ≤ i)) rfl ?_ ?_
    · intro kq a' w' hI J K hJ hK
      obtain ⟨i, out, u5, u6, u7, u8, u9, u10, u11, u12, u13, u14, u15, u16, u17, u18, u19, u20, u21, u22, u23, u24, u25, u26, u27, u28, u29, u30, u31, u32, u33, u34, rfl, HH, HN, HI, HQ, HL⟩ := hI
      clear HH0
      have hil : a0.data.toList.length = a0.size := by simp
      by_cases hi : i < a0.size
      · cases kq with
        | zero => exact absurd HQ.out (by omega)
        | succ k1 =>
          have hd : a0.data.toList.drop i = a0[i]'hi :: a0.data.toList.drop (i + 1) := by
            rw [List.drop_eq_getElem_cons (by rw [hil]; exact hi)]
            rfl
          have hn := HN.out
          rw [hd] at hn
          simp only [normL] at hn
          have c1 : ((i : Int) == (a0.size : Int)) = false := beq_eq_false_iff_ne.2 (by omega)
          have hlen := HL.out
          have hsz := HS.out
          by_cases hc : a0[i]'hi = 13
          · have d1 : (((a0[i]'hi).toNat : Int) != 13) = false := by rw [hc]; rfl
            rw [if_pos hc] at hn
            by_cases h2 : i + 1 < a0.size
            · have hd2 : a0.data.toList.drop (i + 1) = a0[i + 1]'h2 :: a0.data.toList.drop (i + 2) := by
                rw [List.drop_eq_getElem_cons (by rw [hil]; exact h2)]
                rfl
              rw [hd2] at hn
              have b1 : (i : Int) ≤ 1000000000 := by omega
              have c2 : decide ((i : Int) + 1 < (a0.size : Int)) = true := decide_eq_true (by omega)
              have i1 : (0 : Int) ≤ (i : Int) + 1 := by omega
              have i2 : (i : Int) + 1 < (a0.size : Int) := by omega
              by_cases hc2 : a0[i + 1]'h2 = 10
              · have d2 : (((a0[i + 1]'h2).toNat : Int) == 10) = true := by rw [hc2]; rfl
                rw [hc2] at hn
                have HN2 := Aside0.mk (show (out ++ [10]) ++ normL k1 (a0.data.toList.drop (i + 2)) = normL (a0.size + 1) a0.data.toList by rw [List.append_assoc]; exact hn)
                have HC := Aside0.mk hc
                have HC2 := Aside0.mk hc2
                have HSZ := Aside0.mk hlen
                clear hn hd hd2 hc hc2 HN hlen hil hsz
                go_wp2_with (go_at_call 23; (with_reducible refine (write_lf HH.out (by have := HL.out; have := HS.out; omega)).mono ?_); rintro e w1 ⟨rfl, hb⟩; have HH1 := Aside0.mk hb; clear hb HH)
                go_step3
                exact ⟨rfl, hK _ _ (Handed.intro k1 (by omega) (hJ _ _ _ ⟨i + 2, _, _, _, _, _, _, _, _, _, _, _, _, _, _, _, _, _, _, _, _, _, _, _, _, _, _, _, _, _, _, _, rfl, HH1, HN2, ⟨by omega⟩, ⟨by have := HQ.out; omega⟩, ⟨by have := HSZ.out; rw [List.length_append]; simp; omega⟩⟩))⟩
              · have d2 : (((a0[i + 1]'h2).toNat : Int) == 10) = false := beq_eq_false_iff_ne.2 (fun e => hc2 (UInt8.toNat_inj.1 (by simpa using Int.ofNat.inj e)))
                have hm : (match a0[i + 1]'h2 :: a0.data.toList.drop (i + 2) with | 10 :: t' => t' | _ => a0[i + 1]'h2 :: a0.data.toList.drop (i + 2)) = a0.data.toList.drop (i + 1) := by
                  rw [hd2]
                  split
                  · rename_i e
                    exact absurd (List.cons.inj e).1 hc2
                  · rfl
                rw [hm] at hn
                have HN2 := Aside0.mk (show (out ++ [10]) ++ normL k1 (a0.data.toList.drop (i + 1)) = normL (a0.size + 1) a0.data.toList by rw [List.append_assoc]; exact hn)
                have HC := Aside0.mk hc
                have HC2 := Aside0.mk hc2
                have HSZ := Aside0.mk hlen
                clear hn hd hd2 hm hc hc2 HN hlen hil hsz
                go_wp2_with (go_at_call 23; (with_reducible refine (write_lf HH.out (by have := HL.out; have := HS.out; omega)).mono ?_); rintro e w1 ⟨rfl, hb⟩; have HH1 := Aside0.mk hb; clear hb HH)
                go_step3
                exact ⟨rfl, hK _ _ (Handed.intro k1 (by omega) (hJ _ _ _ ⟨i + 1, _, _, _, _, _, _, _, _, _, _, _, _, _, _, _, _, _, _, _, _, _, _, _, _, _, _, _, _, _, _, _, rfl, HH1, HN2, ⟨by omega⟩, ⟨by have := HQ.out; omega⟩, ⟨by have := HSZ.out; rw [List.length_append]; simp; omega⟩⟩))⟩
            · have c2 : decide ((i : Int) + 1 < (a0.size : Int)) = false := decide_eq_false (by omega)
              rw [List.drop_eq_nil_of_le (by omega)] at hn
              have b1 : (i : Int) ≤ 1000000000 := by omega
              have HN2 := Aside0.mk (show (out ++ [10]) ++ normL k1 (a0.data.toList.drop (i + 1)) = normL (a0.size + 1) a0.data.toList by rw [List.drop_eq_nil_of_le (by omega), List.append_assoc]; exact hn)
              have HC := Aside0.mk hc
              have HSZ := Aside0.mk hlen
              clear hn hd hc HN hlen hil hsz
              go_wp2_with (go_at_call 23; (with_reducible refine (write_lf HH.out (by have := HL.out; have := HS.out; omega)).mono ?_); rintro e w1 ⟨rfl, hb⟩; have HH1 := Aside0.mk hb; clear hb HH)
              go_step3
              exact ⟨rfl, hK _ _ (Handed.intro k1 (by omega) (hJ _ _ _ ⟨i + 1, _, _, _, _, _, _, _, _, _, _, _, _, _, _, _, _, _, _, _, _, _, _, _, _, _, _, _, _, _, _, _, rfl, HH1, HN2, ⟨by omega⟩, ⟨by have := HQ.out; omega⟩, ⟨by have := HSZ.out; rw [List.length_append]; simp; omega⟩⟩))⟩
          · have d1 : (((a0[i]'hi).toNat : Int) != 13) = true := bne_iff_ne.2 (fun e => hc (UInt8.toNat_inj.1 (by simpa using Int.ofNat.inj e)))
            rw [if_neg hc] at hn
            have HN2 := Aside0.mk (show (out ++ [a0[i]'hi]) ++ normL k1 (a0.data.toList.drop (i + 1)) = normL (a0.size + 1) a0.data.toList by rw [List.append_assoc]; exact hn)
            have HC := Aside0.mk hc
            have b1 : (i : Int) ≤ 1000000000 := by omega
            have HSZ := Aside0.mk hlen
            clear hn hd hc HN hlen hil hsz
            go_wp2_with (go_at_call 23; (with_reducible refine (Holds.writeByte HH.out (a0[i]'hi) (by have := HL.out; have := HS.out; omega)).mono ?_); rintro e w1 ⟨rfl, hb⟩; have HH1 := Aside0.mk hb; clear hb HH)
            go_step3
            exact ⟨rfl, hK _ _ (Handed.intro k1 (by omega) (hJ _ _ _ ⟨i + 1, _, _, _, _, _, _, _, _, _, _, _, _, _, _, _, _, _, _, _, _, _, _, _, _, _, _, _, _, _, _, _, rfl, HH1, HN2, ⟨by omega⟩, ⟨by have := HQ.out; omega⟩, ⟨by have := HSZ.out; rw [List.length_append]; simp; omega⟩⟩))⟩
      · have c1 : ((i : Int) == (a0.size : Int)) = true := beq_iff_eq.2 (by have := HI.out; omega)
        have hn := HN.out
        rw [List.drop_eq_nil_of_le (by omega)] at hn
        have HE := Aside0.mk (show (⟨out.toArray⟩ : ByteArray) = r by
          rw [← hr.out]
          congr 2
          have : normL kq [] = [] := by cases kq <;> rfl
          rw [this, List.append_nil] at hn
          exact hn)
        clear hn HN hil hi
        go_wp2_with (go_at_call 22; (with_reducible refine (Holds.done HH.out).mono ?_); rintro e w1 ⟨rfl, hb⟩; have HB1 := Aside0.mk hb; clear hb)
        rw [Exit.jump_ret]
        go_ret
        exact ⟨by rw [← HE.out]; rfl, HB1.out⟩
    · intro hat
      go_wp2
      go_step3
      rename_i hh
      exact hh _ _ (hat.go (a0.size + 1) _ _ ⟨0, [], _, _, _, _, _, _, _, _, _, _, _, _, _, _, _, _, _, _, _, _, _, _, _, _, _, _, _, _, _, _, rfl, HH0, ⟨rfl⟩, ⟨by omega⟩, ⟨by omega⟩, ⟨by simp⟩⟩)
  · cases h
end Go.Proofs.YteccaekalcjihaaGreatDoor.PTn
namespace Go.Proofs.YteccaekalcjihaaGreatDoor.PTn
open Go.RowKit Go.Proofs.YteccaekalcjihaaGreatDoorW.PrintWords Go.Proofs.YteccaekalcjihaaGreatDoorW.PrintLast Go.Proofs.YteccaekalcjihaaGreatDoorW.PrintMore
attribute [local go_sem] max2_int min2_int max_two min_two max_three min_three max_four min_four
set_option linter.unusedVariables false
set_option linter.unusedSimpArgs false
def tok_inside.f (a0 : ByteArray) (a1 : Int) : Option (Int) := some (mn (mx a1 0) (a0.size : Int))
set_option maxHeartbeats 8000000 in
set_option maxRecDepth 100000 in
theorem tok_inside.calls (a0 : ByteArray) (a1 : Int) (r : Int) (w : World) (h : tok_inside.f a0 a1 = some r) :
    Calls Tryz.prog 71 #[.string a0, .int .i64 a1] w fun e w' => e = .returned (.int .i64 r) ∧ Below w.heap.size w w' := by
  have HB := Aside0.mk (Below.refl w.heap.size w)
  have H : (some (mn (mx a1 0) (a0.size : Int))) = some r := h
  clear h
  obtain ⟨ji3, hji3⟩ : ∃ j_ : Int, (mx a1 0) = j_ := ⟨_, rfl⟩
  replace H : (some (mn (ji3) (a0.size : Int))) = some r := by first | (rw [hji3] at H; exact H) | (simp only [hji3] at H ⊢; exact H)
  (try (have hji3l : 0 ≤ ji3 := by (rw [← hji3]; unfold mx; (repeat' split) <;> omega)))
  (try (have hji3m : 0 ≤ ji3 := by omega))
  have hji3_ : (if a1 < 0 then 0 else a1) = ji3 := hji3
  obtain ⟨ji4, hji4⟩ : ∃ j_ : Int, (mn (ji3) (a0.size : Int)) = j_ := ⟨_, rfl⟩
  replace H : (some ji4) = some r := by first | (rw [hji4] at H; exact H) | (simp only [hji4] at H ⊢; exact H)
  have hji4_ : (if (a0.size : Int) < (ji3) then (a0.size : Int) else (ji3)) = ji4 := hji4
  obtain rfl := Option.some.inj H
  go_enter Tryz.func71, Tryz.ntmps71
  go_wp2
  go_ret
  exact ⟨by first | rfl | (simp [errW_none, errW_some] <;> rfl) | (simp only [← hji3, ← hji4]; first | rfl | (simp [errW_none, errW_some] <;> rfl)) | (simp [*, errW_none, errW_some] <;> rfl), by with_reducible repeat first | exact HB.out | apply below_alloc | apply pw_below_drewN | apply below_drew1⟩
end Go.Proofs.YteccaekalcjihaaGreatDoor.PTn
namespace Go.Proofs.YteccaekalcjihaaGreatDoor.PTn
open Go.RowKit Go.Proofs.YteccaekalcjihaaGreatDoorW.PrintWords Go.Proofs.YteccaekalcjihaaGreatDoorW.PrintLast Go.Proofs.YteccaekalcjihaaGreatDoorW.PrintMore
attribute [local go_sem] max2_int min2_int max_two min_two max_three min_three max_four min_four
set_option linter.unusedVariables false
set_option linter.unusedSimpArgs false
def sign_within.f (a0 : Int) (a1 : Int) (a2 : Int) : Option (Bool) := if a0 ≥ a1 then (some (decide (a0 ≤ a2))) else (some false)
set_option maxHeartbeats 8000000 in
set_option maxRecDepth 100000 in
theorem sign_within.calls (a0 : Int) (a1 : Int) (a2 : Int) (r : Bool) (w : World) (h : sign_within.f a0 a1 a2 = some r) :
    Calls Tryz.prog 114 #[.int .u8 a0, .int .u8 a1, .int .u8 a2] w fun e w' => e = .returned (.bool r) ∧ Drawn0 w w' := by
  have H : (if a0 ≥ a1 then (some (decide (a0 ≤ a2))) else (some false)) = some r := h
  clear h
  by_cases c4 : a0 ≥ a1
  · rw [if_pos c4] at H
    have c4b0 : decide (a1 ≤ a0) = true := decide_eq_true c4
    clear c4
    obtain rfl := Option.some.inj H
    go_enter Tryz.func114, Tryz.ntmps114
    go_wp2
    go_ret
    exact ⟨by first | rfl | (simp; done) | (simp [*]; done), by repeat (first | exact Drawn0.refl _ | apply Drawn0.step)⟩
  · rw [if_neg c4] at H
    have c4b0 : decide (a1 ≤ a0) = false := decide_eq_false c4
    clear c4
    obtain rfl := Option.some.inj H
    go_enter Tryz.func114, Tryz.ntmps114
    go_wp2
    go_ret
    exact ⟨by first | rfl | (simp; done) | (simp [*]; done), by repeat (first | exact Drawn0.refl _ | apply Drawn0.step)⟩
end Go.Proofs.YteccaekalcjihaaGreatDoor.PTn
set_option linter.unusedVariables false
namespace Go.Proofs.YteccaekalcjihaaGreatDoor.PTn
open Go.RowKit Go.Lib Go.Proofs.YteccaekalcjihaaGreatDoor.Buf Go.Proofs.YteccaekalcjihaaGreatDoorW.PrintWords
def lowB (c : UInt8) : UInt8 := if 65 ≤ c.toNat ∧ c.toNat ≤ 90 then c ||| 32 else c
def lowL (l : List UInt8) : List UInt8 := l.map lowB
def sign_Lower.f (a0 : ByteArray) : Option ByteArray := if a0.size ≤ 1000000000 then some ⟨(lowL a0.data.toList).toArray⟩ else none
theorem low_or (c : UInt8) (h : 65 ≤ c.toNat ∧ c.toNat ≤ 90) : Go.bits .or .u8 (c.toNat : Int) 32 = ((lowB c).toNat : Int) := by
  have key : ∀ n : Fin 256, 65 ≤ n.val ∧ n.val ≤ 90 → Go.bits .or .u8 ((UInt8.ofNat n.val).toNat : Int) 32 = ((lowB (UInt8.ofNat n.val)).toNat : Int) := by decide +kernel
  have := key ⟨c.toNat, c.toNat_lt⟩ h
  rwa [UInt8.ofNat_toNat] at this
def BR (W : World) (g : Nat) (L : List UInt8) : Prop := ∃ cs fz, W.heap[g]? = some (.cells cs 5 fz) ∧ L.length ≤ fz.1 ∧ L.length ≤ cs.size ∧ cs.toList.take L.length = byteCells L
theorem BR.get {W : World} {g : Nat} {L : List UInt8} (h : BR W g L) {i : Nat} (hi : i < L.length) : W.cell? ⟨g, i, none⟩ = some (.int .u8 ((L[i]).toNat : Int)) ∧ W.frozen? ⟨g, i, none⟩ = false := by
  obtain ⟨cs, fz, h1, h2, h3, h4⟩ := h
  constructor
  · rw [Lib.cell_of_heap h1]
    have e : cs.toList[i]? = (byteCells L)[i]? := by
      rw [← h4, List.getElem?_take, if_pos hi]
    rw [← Array.getElem?_toList, e]
    simp [byteCells, hi]
  · simp only [World.frozen?, h1]
    obtain ⟨lo, hi'⟩ := fz
    simp only [Bool.and_eq_false_iff, decide_eq_false_iff_not]
    simp only at h2
    omega
theorem BR.set {W : World} {g : Nat} {L : List UInt8} (h : BR W g L) {i : Nat} (hi : i < L.length) (c : UInt8) : BR (W.setCell ⟨g, i, none⟩ (.int .u8 (c.toNat : Int))) g (L.set i c) := by
  obtain ⟨cs, fz, h1, h2, h3, h4⟩ := h
  refine ⟨cs.setIfInBounds i (.int .u8 (c.toNat : Int)), fz, ?_, by simpa using h2, by simpa using h3, ?_⟩
  · obtain ⟨lo, hi'⟩ := fz
    simp [World.setCell, Array.getElem?_modify, h1]
  · rw [List.length_set, Array.toList_setIfInBounds, List.take_set, h4]
    simp [byteCells, List.map_set]
theorem BR.reads {W : World} {g : Nat} {L : List UInt8} (h : BR W g L) (hl : L.length ≤ 1000000000) : Kd.C (Kd.int .u8) W (some ⟨g, 0, none⟩) L.length (numsD L) := by
  refine Kd.C_of_reads (h1 := fun _ => rfl) (d := 0) ⟨by rw [numsD_length], by omega, fun _ => ⟨_, rfl, fun j hj => ?_⟩⟩
  have hadd : (⟨g, 0, none⟩ : Addr).add j = ⟨g, j, none⟩ := by unfold Addr.add; split <;> simp_all
  rw [hadd, (h.get hj).1]
  simp [numsD, hj]
theorem BR.conv (w : World) (s : ByteArray) : BR (bytesWorld w 5 s) w.heap.size s.data.toList := by
  refine ⟨_, _, bytesWorld_at_new w 5 s, ?_, ?_, ?_⟩
  · simp [bytesCells]
  · simp [bytesCells]
  · simp [bytesCells, byteCells]
theorem conv_below (w : World) (s : ByteArray) : Below w.heap.size w (bytesWorld w 5 s) := by
  refine ⟨?_, ?_, ?_, by rw [bytesWorld_size]; omega, fun k hk => bytesWorld_at_old w _ s k hk⟩
  all_goals
    unfold bytesWorld World.freeze
    rw [if_neg (by decide)]
    rfl
theorem within_at (c : UInt8) : sign_within.f (c.toNat : Int) 65 90 = some (decide (65 ≤ c.toNat ∧ c.toNat ≤ 90)) := by
  unfold sign_within.f
  by_cases h : 65 ≤ c.toNat
  · rw [if_pos (by omega)]
    congr 1
    simp [h]
    omega
  · rw [if_neg (by omega)]
    simp [h]
def lowTo (L : List UInt8) (i : Nat) : List UInt8 := lowL (L.take i) ++ L.drop i
theorem lowTo_len (L : List UInt8) (i : Nat) : (lowTo L i).length = L.length := by
  simp [lowTo, lowL]
  omega
theorem lowTo_at (L : List UInt8) (i : Nat) (h : i < L.length) : (lowTo L i)[i]'(by rw [lowTo_len]; exact h) = L[i] := by
  simp only [lowTo]
  rw [List.getElem_append_right (by simp [lowL]; omega)]
  simp [lowL, Nat.min_eq_left (Nat.le_of_lt h)]
theorem lowTo_next (L : List UInt8) (i : Nat) (h : i < L.length) : (lowTo L i).set i (lowB L[i]) = lowTo L (i + 1) := by
  simp only [lowTo]
  rw [List.set_append_right _ _ (by simp [lowL]; omega), List.drop_eq_getElem_cons h]
  have e : i - (lowL (L.take i)).length = 0 := by simp [lowL]; omega
  rw [e, List.set_cons_zero, List.take_succ_eq_append_getElem h]
  simp only [lowL, List.map_append, List.map_cons, List.map_nil, List.append_assoc, List.cons_append, List.nil_append]
theorem lowTo_keep (L : List UInt8) (i : Nat) (h : i < L.length) (hk : lowB L[i] = L[i]) : lowTo L i = lowTo L (i + 1) := by
  rw [← lowTo_next L i h, hk, ← lowTo_at L i h, List.set_getElem_self]
set_option maxHeartbeats 4000000 in
set_option maxRecDepth 100000 in
theorem sign_Lower.calls (a0 : ByteArray) (r : ByteArray) (w : World) (h : sign_Lower.f a0 = some r) :
    Calls Tryz.prog 60 #[.string a0] w fun e w' => e = .returned (.string r) ∧ Below w.heap.size w w' := by
  unfold sign_Lower.f at h
  split at h
  · rename_i hs
    have hr := Aside0.mk (Option.some.inj h)
    have hcv := Lib.run_convert_string_bytes (P := Tryz.prog) w 9 22 5 a0 Tryz.underlying9 Tryz.underlying22 Tryz.underlying5
    have HB0 := Aside0.mk (BR.conv w a0)
    have HW0 := Aside0.mk (conv_below w a0)
    obtain ⟨L, hL⟩ : ∃ L, a0.data.toList = L := ⟨_, rfl⟩
    have hz : a0.size = L.length := by rw [← hL]; simp
    rw [hL] at HB0 hr
    rw [hz] at hcv hs
    have HS := Aside0.mk hs
    generalize grownCap w L.length 0 5 = cap at hcv
    generalize bytesWorld w 5 a0 = W1 at hcv HB0 HW0
    clear h hs hL hz
    go_enter Tryz.func60, Tryz.ntmps60
    go_wp2
    clear hcv
    go_loopg [10] (L.length + 1) (fun kq v10 w' => ∃ i : Nat, v10 = .int .i64 i ∧ Aside0 (BR w' w.heap.size (lowTo L i)) ∧ Aside0 (Below w.heap.size w w') ∧ Aside0 (i ≤ L.length) ∧ Aside0 (L.length < i + kq))
    case atStart => exact ⟨0, rfl, ⟨by simpa [lowTo, lowL] using HB0.out⟩, HW0, ⟨by omega⟩, ⟨by omega⟩⟩
    case round =>
      clear HB0 HW0
      obtain ⟨i, rfl, HB, HW, HI, HQ⟩ := hrel
      by_cases hi : i < L.length
      · cases gk with
        | zero => exact absurd HQ.out (by omega)
        | succ k1 =>
          obtain ⟨g1, g2⟩ := HB.out.get (i := i) (by rw [lowTo_len]; exact hi)
          rw [lowTo_at L i hi] at g1
          have c1 : decide ((i : Int) < (L.length : Int)) = true := decide_eq_true (by omega)
          have c2 : decide (i < L.length) = true := decide_eq_true hi
          have b1 : (i : Int) ≤ 1000000000 := by have := HS.out; omega
          have i0 : (0 : Int) ≤ (i : Int) := by omega
          have i1 : (i : Int) < (L.length : Int) := by omega
          obtain ⟨c, hc⟩ : ∃ c, L[i] = c := ⟨_, rfl⟩
          have hw := Aside0.mk (within_at c)
          have HN := Aside0.mk (lowTo_next L i hi)
          have HK := Aside0.mk (fun h => lowTo_keep L i hi h)
          have HC := Aside0.mk hc
          have HIL := Aside0.mk (show i < (lowTo L i).length by rw [lowTo_len]; exact hi)
          rw [hc] at g1 HN HK
          by_cases hA : 65 ≤ c.toNat ∧ c.toNat ≤ 90
          · have ho := low_or c hA
            rw [decide_eq_true hA] at hw
            have HS2 := Aside0.mk (HB.out.set HIL.out (lowB c))
            rw [HN.out] at HS2
            have HA := Aside0.mk hA
            clear hA hc HN HK HC
            go_wp2_with (go_at_call 114; (with_reducible refine (sign_within.calls _ _ _ true _ hw.out).mono ?_); rintro e w' ⟨rfl, ⟨nd, rfl⟩⟩)
            go_roundg k1
            case measure => omega
            case rel => exact ⟨i + 1, rfl, ⟨HS2.out⟩, ⟨(pw_below_drewN HW.out nd).setCell (Nat.le_refl _) _⟩, ⟨by omega⟩, ⟨by have := HQ.out; omega⟩⟩
          · rw [decide_eq_false hA] at hw
            have HKK := Aside0.mk (HK.out (by unfold lowB; rw [if_neg hA]))
            have HA := Aside0.mk hA
            clear hA hc HN HK HC
            go_wp2_with (go_at_call 114; (with_reducible refine (sign_within.calls _ _ _ false _ hw.out).mono ?_); rintro e w' ⟨rfl, ⟨nd, rfl⟩⟩)
            go_roundg k1
            case measure => omega
            case rel => exact ⟨i + 1, rfl, ⟨by rw [← HKK.out]; exact HB.out⟩, ⟨pw_below_drewN HW.out nd⟩, ⟨by omega⟩, ⟨by have := HQ.out; omega⟩⟩
      · have c1 : decide ((i : Int) < (L.length : Int)) = false := decide_eq_false (by omega)
        have c2 : decide (i < L.length) = false := decide_eq_false hi
        have hb := HB.out
        have e : lowTo L i = lowL L := by
          simp [lowTo, List.take_of_length_le (show L.length ≤ i by omega), List.drop_eq_nil_of_le (show L.length ≤ i by omega)]
        rw [e] at hb
        have hll : (lowL L).length = L.length := by simp [lowL]
        have hre := hb.reads (by rw [hll]; exact HS.out)
        rw [hll] at hre
        have hcv := Kd.C_string (P := Tryz.prog) (c := cap) Tryz.underlying22 Tryz.underlying5 Tryz.underlying9 hre
        rw [strOf_nums, hr.out] at hcv
        clear hre hb e hll hi
        go_wp2
        go_ret
        exact ⟨rfl, HW.out⟩
  · cases h
end Go.Proofs.YteccaekalcjihaaGreatDoor.PTn
