/- Several texts of this claim, laid together into one file. -/
import Derived.Test.YteccaekalcjihaaGreatDoorLotD
import Derived.Laws.Runes
import Derived.Test.YteccaekalcjihaaGreatDoorLotB
import Derived.Laws.Tables
import Derived.Laws.Rows
import Derived.Maps.RangeWalk
import Derived.Test.YteccaekalcjihaaGreatDoorLotC
import Derived.LoopN
set_option linter.unusedSimpArgs false
set_option linter.unusedVariables false
set_option linter.unusedVariables false
namespace Go.Proofs.YteccaekalcjihaaGreatDoor.PTn
open Go.RowKit Go.Lib Go.Proofs.YteccaekalcjihaaGreatDoorW.PrintWords TopFl
def utf_Sign.f (a0 : Int) : Option ByteArray := some (if a0 < 0 ∨ 1114111 < a0 then ⟨#[239, 191, 189]⟩ else Utf8.encode a0)
set_option maxHeartbeats 1000000 in
set_option maxRecDepth 100000 in
theorem utf_Sign.calls (a0 : Int) (r : ByteArray) (w : World) (h : utf_Sign.f a0 = some r) :
    Calls Tryz.prog 168 #[.int .i64 a0] w fun e w' => e = .returned (.string r) ∧ Drawn0 w w' := by
  obtain rfl := Option.some.inj h
  clear h
  by_cases h1 : a0 < 0
  · rw [if_pos (Or.inl h1)]
    have c1 : decide (a0 < 0) = true := decide_eq_true h1
    clear h1
    go_enter Tryz.func168, Tryz.ntmps168
    go_wp2
    go_ret
    exact ⟨rfl, Drawn0.refl _⟩
  · by_cases h2 : 1114111 < a0
    · rw [if_pos (Or.inr h2)]
      have c1 : decide (a0 < 0) = false := decide_eq_false h1
      have c2 : decide (1114111 < a0) = true := decide_eq_true h2
      clear h1 h2
      go_enter Tryz.func168, Tryz.ntmps168
      go_wp2
      go_ret
      exact ⟨rfl, Drawn0.refl _⟩
    · rw [if_neg (by omega)]
      have c1 : decide (a0 < 0) = false := decide_eq_false h1
      have c2 : decide (1114111 < a0) = false := decide_eq_false h2
      have hw : IntKind.i32.wrap a0 = a0 := IntWalk.i32_in _ (by omega)
      have h3 : 0 ≤ a0 := by omega
      have h4 : a0 ≤ 1114111 := by omega
      clear h1 h2
      go_enter Tryz.func168, Tryz.ntmps168
      go_wp2
      go_ret
      exact ⟨rfl, Drawn0.refl _⟩
end Go.Proofs.YteccaekalcjihaaGreatDoor.PTn
set_option linter.unusedVariables false
namespace Go.Proofs.YteccaekalcjihaaGreatDoor.PTn
open Go.RowKit Go.Lib Go.Proofs.YteccaekalcjihaaGreatDoor.Buf Go.Proofs.YteccaekalcjihaaGreatDoorW.PrintWords
def otherN : List Int := [8364, 129, 8218, 402, 8222, 8230, 8224, 8225, 710, 8240, 352, 8249, 338, 141, 381, 143, 144, 8216, 8217, 8220, 8221, 8226, 8211, 8212, 732, 8482, 353, 8250, 339, 157, 382, 376]
def otherV : Array Value := (otherN.map (Value.int .i64)).toArray
set_option maxHeartbeats 1000000 in
set_option maxRecDepth 100000 in
theorem other_at (w : World) : Calls Tryz.prog 188 #[] w fun e w' => e = .returned (.agg otherV) ∧ Below w.heap.size w w' := by
  go_enter Tryz.func188, Tryz.ntmps188
  go_wp2_with (refine wpList_build rfl 175 _ rfl (by kernel_rfl) ?_; refine Stop.out (?_ : Stop _))
  refine Stop.mk ?_
  have hb : ∀ o, Below w.heap.size w ((w.alloc o).setRow w.heap.size otherV) := fun o => by
    have h1 : Below w.heap.size w (w.alloc o) := (Below.refl _ _).alloc (Nat.le_refl _) _
    exact ⟨h1.os, h1.tape, h1.output, by simp, fun k hk => (setRow_other _ _ k _ (by omega)).trans (h1.block k hk)⟩
  refine wpList_store_row rfl 175 _ _ rfl w.heap.size otherV rfl (by kernel_rfl) _ _ (heap_alloc_new w _) (by kernel_rfl) rfl (by kernel_rfl) ?_
  have HB := Aside0.mk hb
  clear hb
  go_frame
  go_wp2
  exact bodyPost_ret (results_cell_row (P := Tryz.prog) (fn := Tryz.f188) rfl _ _ w.heap.size 175 otherV (0, 0) _ rfl (setRow_heap _ _ _ _ _ _ (heap_alloc_new w _)) Tryz.underlying175 rfl (by kernel_rfl)) rfl ⟨rfl, HB.out _⟩
def number_Fix.f (n : Int) : Option ByteArray := if n = 0 then some ⟨#[239, 191, 189]⟩ else if 128 ≤ n ∧ n < 160 then utf_Sign.f (otherN.getD (n - 128).toNat 0) else utf_Sign.f n
theorem fix_world (w w1 : World) (hb : Below w.heap.size w w1) (o : Obj) : Below w.heap.size w ((w1.alloc o).setRow w1.heap.size otherV) := by
  have h1 : Below w.heap.size w (w1.alloc o) := hb.alloc hb.size _
  exact ⟨h1.os, h1.tape, h1.output, by simp; have := hb.size; omega, fun k hk => (setRow_other _ _ k _ (by have := hb.size; omega)).trans (h1.block k hk)⟩
theorem other_cell (w1 : World) (o : Array Value) (j : Nat) (hj : j < 32) : ((w1.alloc (.cells o 175)).setRow w1.heap.size otherV).cell? ⟨w1.heap.size, j, none⟩ = some (.int .i64 (otherN.getD j 0)) := by
  rw [cell_of_row _ _ _ _ _ _ (setRow_heap _ _ _ _ _ _ (heap_alloc_new w1 _))]
  have : ∀ j : Fin 32, otherV[j.val]? = some (.int .i64 (otherN.getD j.val 0)) := by
    intro j
    rcases j with ⟨j, hj⟩
    have hl : j < otherN.length := hj
    simp [otherV, List.getD, hl]
  exact this ⟨j, hj⟩
set_option maxHeartbeats 2000000 in
set_option maxRecDepth 100000 in
theorem number_Fix.calls (a0 : Int) (r : ByteArray) (w : World) (h : number_Fix.f a0 = some r) :
    Calls Tryz.prog 162 #[.int .i64 a0] w fun e w' => e = .returned (.string r) ∧ Below w.heap.size w w' := by
  unfold number_Fix.f at h
  by_cases h0 : a0 = 0
  · rw [if_pos h0] at h
    obtain rfl := Option.some.inj h
    have c1 : (a0 == 0) = true := beq_iff_eq.2 h0
    subst h0
    go_enter Tryz.func162, Tryz.ntmps162
    go_wp2_with (first | (go_at_call 188; (with_reducible refine (other_at _).mono ?_); rintro e w1 ⟨rfl, hb⟩; have HB := Aside0.mk hb; clear hb) | (refine wpList_store_row rfl 175 _ _ rfl _ otherV rfl rfl _ _ (heap_alloc_new _ _) (by kernel_rfl) rfl (by kernel_rfl) ?_))
    go_ret
    exact ⟨rfl, fix_world w _ HB.out _⟩
  · rw [if_neg h0] at h
    have c1 : (a0 == 0) = false := beq_eq_false_iff_ne.2 h0
    by_cases h1 : 128 ≤ a0 ∧ a0 < 160
    · rw [if_pos h1] at h
      obtain ⟨j, rfl⟩ : ∃ j : Nat, a0 = 128 + (j : Int) := ⟨(a0 - 128).toNat, by omega⟩
      have hj : j < 32 := by omega
      have e1 : (128 + (j : Int) - 128).toNat = j := by omega
      rw [e1] at h
      have H := Aside0.mk h
      have d1 : decide ((128 : Int) ≤ 128 + (j : Int)) = true := decide_eq_true (by omega)
      have d2 : decide (128 + (j : Int) < 160) = true := decide_eq_true (by omega)
      have i1 : (0 : Int) ≤ (j : Int) := by omega
      have i2 : (j : Int) < 32 := by omega
      have hcell := fun w1 o => other_cell w1 o j hj
      obtain ⟨q, hq⟩ : ∃ q, otherN.getD j 0 = q := ⟨_, rfl⟩
      rw [hq] at H hcell
      clear h h0 h1 hq e1
      go_enter Tryz.func162, Tryz.ntmps162
      go_wp2_with (first | (go_at_call 188; (with_reducible refine (other_at _).mono ?_); rintro e w1 ⟨rfl, hb⟩; have HB := Aside0.mk hb; clear hb) | (refine wpList_store_row rfl 175 _ _ rfl _ otherV rfl rfl _ _ (heap_alloc_new _ _) (by kernel_rfl) rfl (by kernel_rfl) ?_) | (go_at_call 168; (with_reducible refine (utf_Sign.calls q r _ H.out).mono ?_); rintro e w2 ⟨rfl, ⟨nd, rfl⟩⟩))
      go_ret
      exact ⟨rfl, pw_below_drewN (fix_world w _ HB.out _) nd⟩
    · rw [if_neg h1] at h
      have H := Aside0.mk h
      by_cases h2 : 128 ≤ a0
      · have d1 : decide ((128 : Int) ≤ a0) = true := decide_eq_true h2
        have d2 : decide (a0 < 160) = false := decide_eq_false (by omega)
        clear h h0 h1 h2
        go_enter Tryz.func162, Tryz.ntmps162
        go_wp2_with (first | (go_at_call 188; (with_reducible refine (other_at _).mono ?_); rintro e w1 ⟨rfl, hb⟩; have HB := Aside0.mk hb; clear hb) | (refine wpList_store_row rfl 175 _ _ rfl _ otherV rfl rfl _ _ (heap_alloc_new _ _) (by kernel_rfl) rfl (by kernel_rfl) ?_) | (go_at_call 168; (with_reducible refine (utf_Sign.calls a0 r _ H.out).mono ?_); rintro e w2 ⟨rfl, ⟨nd, rfl⟩⟩))
        go_ret
        exact ⟨rfl, pw_below_drewN (fix_world w _ HB.out _) nd⟩
      · have d1 : decide ((128 : Int) ≤ a0) = false := decide_eq_false h2
        clear h h0 h1 h2
        go_enter Tryz.func162, Tryz.ntmps162
        go_wp2_with (first | (go_at_call 188; (with_reducible refine (other_at _).mono ?_); rintro e w1 ⟨rfl, hb⟩; have HB := Aside0.mk hb; clear hb) | (refine wpList_store_row rfl 175 _ _ rfl _ otherV rfl rfl _ _ (heap_alloc_new _ _) (by kernel_rfl) rfl (by kernel_rfl) ?_) | (go_at_call 168; (with_reducible refine (utf_Sign.calls a0 r _ H.out).mono ?_); rintro e w2 ⟨rfl, ⟨nd, rfl⟩⟩))
        go_ret
        exact ⟨rfl, pw_below_drewN (fix_world w _ HB.out _) nd⟩
end Go.Proofs.YteccaekalcjihaaGreatDoor.PTn
namespace Go.Proofs.YteccaekalcjihaaGreatDoor.PTn
open Go.RowKit Go.Proofs.YteccaekalcjihaaGreatDoorW.PrintWords Go.Proofs.YteccaekalcjihaaGreatDoorW.PrintLast Go.Proofs.YteccaekalcjihaaGreatDoorW.PrintMore
attribute [local go_sem] max2_int min2_int max_two min_two max_three min_three max_four min_four
set_option linter.unusedVariables false
set_option linter.unusedSimpArgs false
mutual
def number_Read.j0 : Nat → ByteArray → Int → Int → Bool → Option (ByteArray × Int × Bool)
  | 0, _, _, _, _ => none
  | k + 1, x0, x1, x7, x8 => number_Read.l0 k x0 x1 x7 x8 x7
def number_Read.j2 : Nat → ByteArray → Int → Int → Bool → Int → Option (ByteArray × Int × Bool)
  | 0, _, _, _, _, _ => none
  | k + 1, x0, x1, x7, x8, x9 => if 0 ≤ x9 then (if x9 ≤ x7 then (if x7 ≤ (x0.size : Int) then ((number_Value.f (x0.extract (x9 : Int).toNat (x7 : Int).toNat) x8).bind fun t130 => (if t130 < 0 then (some ((⟨#[]⟩ : ByteArray), x1, false)) else ((sign_Begins.f x0 x7 (⟨#[59]⟩ : ByteArray)).bind fun t131 => (if t131 = true then ((number_Fix.f t130).bind fun t132 => (some (t132, wrap64 (x7 + 1), true))) else ((number_Fix.f t130).bind fun t133 => (some (t133, x7, true))))))) else (none)) else (none)) else (none)
def number_Read.l0 : Nat → ByteArray → Int → Int → Bool → Int → Option (ByteArray × Int × Bool)
  | 0, _, _, _, _, _ => none
  | k + 1, x0, x1, x7, x8, x9 => if x7 < (x0.size : Int) then (if 0 ≤ x7 then ((sign_Digit.f (bt x0 x7)).bind fun t128 => (if t128 = true then (number_Read.l0 k x0 x1 (wrap64 (x7 + 1)) x8 x9) else (if x8 = true then ((sign_Hex.f (bt x0 x7)).bind fun t129 => (if t129 ≥ 0 then (number_Read.l0 k x0 x1 (wrap64 (x7 + 1)) x8 x9) else (number_Read.j2 k x0 x1 x7 x8 x9))) else (number_Read.j2 k x0 x1 x7 x8 x9)))) else (none)) else (number_Read.j2 k x0 x1 x7 x8 x9)
end
def number_Read.f (k : Nat) (a0 : ByteArray) (a1 : Int) : Option (ByteArray × Int × Bool) := (sign_Begins.f a0 a1 (⟨#[35]⟩ : ByteArray)).bind fun t126 => (if t126 = true then ((sign_Begins.f a0 (wrap64 (a1 + 1)) (⟨#[120]⟩ : ByteArray)).bind fun t127 => (if t127 = true then (number_Read.j0 k a0 a1 (wrap64 ((wrap64 (a1 + 1)) + 1)) t127) else (number_Read.j0 k a0 a1 (wrap64 (a1 + 1)) t127))) else (some ((⟨#[]⟩ : ByteArray), a1, false)))
set_option maxHeartbeats 8000000 in
set_option maxRecDepth 100000 in
theorem number_Read.calls (k : Nat) (a0 : ByteArray) (a1 : Int) (r1 : ByteArray) (r2 : Int) (r3 : Bool) (w : World) (h : number_Read.f k a0 a1 = some (r1, r2, r3)) :
    Calls Tryz.prog 118 #[.string a0, .int .i64 a1] w fun e w' => e = .returned (.tuple #[.string r1, .int .i64 r2, .bool r3]) ∧ Below w.heap.size w w' := by
  have HB := Aside0.mk (Below.refl w.heap.size w)
  have H : ((sign_Begins.f a0 a1 (⟨#[35]⟩ : ByteArray)).bind fun t126 => (if t126 = true then ((sign_Begins.f a0 (wrap64 (a1 + 1)) (⟨#[120]⟩ : ByteArray)).bind fun t127 => (if t127 = true then (number_Read.j0 k a0 a1 (wrap64 ((wrap64 (a1 + 1)) + 1)) t127) else (number_Read.j0 k a0 a1 (wrap64 (a1 + 1)) t127))) else (some ((⟨#[]⟩ : ByteArray), a1, false)))) = some (r1, r2, r3) := h
  clear h
  replace H := Option.bind_eq_some_iff.mp H
  obtain ⟨t126, A30, H⟩ := H
  (try dsimp only at H)
  have A3 := Aside0.mk A30
  clear A30
  by_cases c4 : t126 = true
  · subst c4
    rw [if_pos rfl] at H
    replace H := Option.bind_eq_some_iff.mp H
    obtain ⟨t127, A50, H⟩ := H
    (try dsimp only at H)
    have A5 := Aside0.mk A50
    clear A50
    have HC6 := Aside0.mk H
    clear H
    go_enter Tryz.func118, Tryz.ntmps118
    go_upto_if 21 with (first | ((with_reducible refine gate_callee (f := 58) rfl ?_); refine goesL_ (some 13) rfl rfl Tryz.func58 (by kernel_rfl) rfl #[.string a0, .int .i64 a1, .string (⟨#[35]⟩ : ByteArray)] rfl (by simp only [List.map_toArray, List.map_cons, List.map_nil] <;> rfl) ?_; (with_reducible refine (sign_Begins.calls a0 a1 (⟨#[35]⟩ : ByteArray) true _ A3.out).mono ?_); rintro e w7 ⟨rfl, hb⟩; refine ⟨_, rfl, ?_⟩; have n0_ := Aside0.mk (below_step (by with_reducible repeat first | exact HB.out | apply below_alloc | apply pw_below_drewN | apply below_drew1) hb); clear HB; have HB := n0_; clear n0_; (try clear hb); (try clear hb2); (try clear hk); (try clear hi)) | ((with_reducible refine gate_callee (f := 58) rfl ?_); refine goesL_ (some 20) rfl rfl Tryz.func58 (by kernel_rfl) rfl #[.string a0, .int .i64 (wrap64 (a1 + 1)), .string (⟨#[120]⟩ : ByteArray)] rfl (by simp only [List.map_toArray, List.map_cons, List.map_nil] <;> rfl) ?_; (with_reducible refine (sign_Begins.calls a0 (wrap64 (a1 + 1)) (⟨#[120]⟩ : ByteArray) t127 _ A5.out).mono ?_); rintro e w8 ⟨rfl, hb⟩; refine ⟨_, rfl, ?_⟩; have n0_ := Aside0.mk (below_step (by with_reducible repeat first | exact HB.out | apply below_alloc | apply pw_below_drewN | apply below_drew1) hb); clear HB; have HB := n0_; clear n0_; (try clear hb); (try clear hb2); (try clear hk); (try clear hi)))
    (try simp only [Act.put, List.setIfInBounds_toArray, List.set_cons_zero, List.set_cons_succ])
    go_cut [7] (fun v7 wc => ∃ (kq : Nat) (x7_5 : Int), v7 = .int .i64 x7_5 ∧ Aside0 (number_Read.j0 kq a0 a1 x7_5 t127 = some (r1, r2, r3)) ∧ Aside0 (kq ≤ k) ∧ Aside0 (Below w.heap.size w wc))
    case first =>
      have H := HC6.out
      clear HC6
      by_cases c9 : t127 = true
      · subst c9
        rw [if_pos rfl] at H
        have H' := Aside0.mk H
        clear H
        go_wp2
        go_meet
        case rel => exact ⟨_, (wrap64 ((wrap64 (a1 + 1)) + 1)), (by first | rfl | (simp; done) | (simp [*]; done)), H', ⟨by first | omega | exact Nat.le_refl _⟩, ⟨by with_reducible repeat first | exact HB.out | apply below_alloc | apply pw_below_drewN | apply below_drew1⟩⟩
      · replace c9 := Bool.eq_false_iff.mpr c9
        subst c9
        rw [if_neg (show ¬ (false = true) by decide)] at H
        have H' := Aside0.mk H
        clear H
        go_wp2
        go_meet
        case rel => exact ⟨_, (wrap64 (a1 + 1)), (by first | rfl | (simp; done) | (simp [*]; done)), H', ⟨by first | omega | exact Nat.le_refl _⟩, ⟨by with_reducible repeat first | exact HB.out | apply below_alloc | apply pw_below_drewN | apply below_drew1⟩⟩
    case rest =>
      clear HC6
      try clear c1
      try clear p2
      try clear c4
      try clear c5
      try clear p6
      try clear c9
      obtain ⟨kq, x7_5, rfl, HA, HJ5, HB⟩ := hcut
      cases kq with
      | zero => exact absurd HA.out (by simp [number_Read.j0])
      | succ kj5 =>
        have H := HA.out
        clear HA
        simp only [number_Read.j0] at H
        have HC10 := Aside0.mk H
        clear H
        go_upto_block 0 with (fail)
        go_cut [7] (fun v7 wc => ∃ (kq : Nat) (x7_9 : Int), v7 = .int .i64 x7_9 ∧ Aside0 (number_Read.j2 kq a0 a1 x7_9 t127 x7_5 = some (r1, r2, r3)) ∧ Aside0 (kq ≤ kj5) ∧ Aside0 (Below w.heap.size w wc))
        case first =>
          have H := HC10.out
          clear HC10
          have H' := Aside0.mk H
          clear H
          go_wp2
          go_loopg [7] kj5 (fun kq v7 w' => ∃ (x7_2 : Int), v7 = .int .i64 x7_2 ∧ Aside0 (number_Read.l0 kq a0 a1 x7_2 t127 x7_5 = some (r1, r2, r3)) ∧ Aside0 (kq ≤ kj5) ∧ Aside0 (Below w.heap.size w w'))
          case atStart => exact ⟨(x7_5), (by first | rfl | (simp; done) | (simp [*]; done)), H', ⟨Nat.le_refl _⟩, ⟨by with_reducible repeat first | exact HB.out | apply below_alloc | apply pw_below_drewN | apply below_drew1⟩⟩
          case round =>
            clear H'
            try clear c1
            try clear p2
            try clear c4
            try clear c5
            try clear p6
            try clear c9
            try clear p2
            try clear p6
            obtain ⟨x7_2, rfl, HA, HK2, HB⟩ := hrel
            cases gk with
            | zero => exact absurd HA.out (by simp [number_Read.l0])
            | succ k2 =>
              have H := HA.out
              clear HA
              simp only [number_Read.l0] at H
              by_cases c11 : x7_2 < (a0.size : Int)
              · rw [if_pos c11] at H
                have c11b0 : decide (x7_2 < (a0.size : Int)) = true := decide_eq_true c11
                clear c11
                (first | rw [c11b0] | (simp only [i64_w, i32_w]; rw [c11b0]) | skip)
                by_cases c12 : 0 ≤ x7_2
                · rw [if_pos c12] at H
                  have c12b0 : decide (0 ≤ x7_2) = true := decide_eq_true c12
                  clear c12
                  replace H := Option.bind_eq_some_iff.mp H
                  obtain ⟨t128, A140, H⟩ := H
                  (try dsimp only at H)
                  have A14 := Aside0.mk A140
                  clear A140
                  by_cases c15 : t128 = true
                  · subst c15
                    rw [if_pos rfl] at H
                    have H' := Aside0.mk H
                    clear H
                    have p13 : 0 ≤ (x7_2 : Int) := of_decide_eq_true (by first | (with_reducible assumption) | assumption)
                    have q13 : x7_2 < (a0.size : Int) := of_decide_eq_true (by first | (with_reducible assumption) | assumption)
                    have hx13 := bt_at a0 x7_2
                    replace p13 := eq_true p13
                    replace q13 := eq_true q13
                    go_wp2_with (first | (go_at_call 159; (with_reducible refine (sign_Digit.calls (bt a0 x7_2) true _ A14.out).mono ?_); rintro e w' ⟨rfl, ⟨nd, rfl⟩⟩))
                    go_roundg k2
                    case measure => have := HJ5.out; have := HK2.out; omega
                    case rel => exact ⟨(wrap64 (x7_2 + 1)), (by first | rfl | (simp; done) | (simp [*]; done)), H', ⟨by have := HJ5.out; have := HK2.out; omega⟩, ⟨by with_reducible repeat first | exact HB.out | apply below_alloc | apply pw_below_drewN | apply below_drew1⟩⟩
                  · replace c15 := Bool.eq_false_iff.mpr c15
                    subst c15
                    rw [if_neg (show ¬ (false = true) by decide)] at H
                    by_cases c16 : t127 = true
                    · subst c16
                      rw [if_pos rfl] at H
                      replace H := Option.bind_eq_some_iff.mp H
                      obtain ⟨t129, A180, H⟩ := H
                      (try dsimp only at H)
                      have A18 := Aside0.mk A180
                      clear A180
                      by_cases c19 : t129 ≥ 0
                      · rw [if_pos c19] at H
                        have c19b0 : decide (0 ≤ t129) = true := decide_eq_true c19
                        clear c19
                        have H' := Aside0.mk H
                        clear H
                        have p13 : 0 ≤ (x7_2 : Int) := of_decide_eq_true (by first | (with_reducible assumption) | assumption)
                        have q13 : x7_2 < (a0.size : Int) := of_decide_eq_true (by first | (with_reducible assumption) | assumption)
                        have hx13 := bt_at a0 x7_2
                        replace p13 := eq_true p13
                        replace q13 := eq_true q13
                        go_wp2_with (first | (go_at_call 159; (with_reducible refine (sign_Digit.calls (bt a0 x7_2) false _ A14.out).mono ?_); rintro e w' ⟨rfl, ⟨nd, rfl⟩⟩; have p17 : 0 ≤ (x7_2 : Int) := of_decide_eq_true (by first | (with_reducible assumption) | assumption); have q17 : x7_2 < (a0.size : Int) := of_decide_eq_true (by first | (with_reducible assumption) | assumption); have hx17 := bt_at a0 x7_2; replace p17 := eq_true p17; replace q17 := eq_true q17) | (go_at_call 160; (with_reducible refine (sign_Hex.calls (bt a0 x7_2) t129 _ A18.out).mono ?_); rintro e w' ⟨rfl, ⟨nd, rfl⟩⟩))
                        go_roundg k2
                        case measure => have := HJ5.out; have := HK2.out; omega
                        case rel => exact ⟨(wrap64 (x7_2 + 1)), (by first | rfl | (simp; done) | (simp [*]; done)), H', ⟨by have := HJ5.out; have := HK2.out; omega⟩, ⟨by with_reducible repeat first | exact HB.out | apply below_alloc | apply pw_below_drewN | apply below_drew1⟩⟩
                      · rw [if_neg c19] at H
                        have c19b0 : decide (0 ≤ t129) = false := decide_eq_false c19
                        clear c19
                        have H' := Aside0.mk H
                        clear H
                        have p13 : 0 ≤ (x7_2 : Int) := of_decide_eq_true (by first | (with_reducible assumption) | assumption)
                        have q13 : x7_2 < (a0.size : Int) := of_decide_eq_true (by first | (with_reducible assumption) | assumption)
                        have hx13 := bt_at a0 x7_2
                        replace p13 := eq_true p13
                        replace q13 := eq_true q13
                        go_wp2_with (first | (go_at_call 159; (with_reducible refine (sign_Digit.calls (bt a0 x7_2) false _ A14.out).mono ?_); rintro e w' ⟨rfl, ⟨nd, rfl⟩⟩; have p17 : 0 ≤ (x7_2 : Int) := of_decide_eq_true (by first | (with_reducible assumption) | assumption); have q17 : x7_2 < (a0.size : Int) := of_decide_eq_true (by first | (with_reducible assumption) | assumption); have hx17 := bt_at a0 x7_2; replace p17 := eq_true p17; replace q17 := eq_true q17) | (go_at_call 160; (with_reducible refine (sign_Hex.calls (bt a0 x7_2) t129 _ A18.out).mono ?_); rintro e w' ⟨rfl, ⟨nd, rfl⟩⟩))
                        go_meet
                        case rel => exact ⟨_, (x7_2), (by first | rfl | (simp; done) | (simp [*]; done)), H', ⟨by have := HJ5.out; have := HK2.out; first | omega | exact Nat.le_refl _⟩, ⟨by with_reducible repeat first | exact HB.out | apply below_alloc | apply pw_below_drewN | apply below_drew1⟩⟩
                    · replace c16 := Bool.eq_false_iff.mpr c16
                      subst c16
                      rw [if_neg (show ¬ (false = true) by decide)] at H
                      have H' := Aside0.mk H
                      clear H
                      have p13 : 0 ≤ (x7_2 : Int) := of_decide_eq_true (by first | (with_reducible assumption) | assumption)
                      have q13 : x7_2 < (a0.size : Int) := of_decide_eq_true (by first | (with_reducible assumption) | assumption)
                      have hx13 := bt_at a0 x7_2
                      replace p13 := eq_true p13
                      replace q13 := eq_true q13
                      go_wp2_with (first | (go_at_call 159; (with_reducible refine (sign_Digit.calls (bt a0 x7_2) false _ A14.out).mono ?_); rintro e w' ⟨rfl, ⟨nd, rfl⟩⟩))
                      go_meet
                      case rel => exact ⟨_, (x7_2), (by first | rfl | (simp; done) | (simp [*]; done)), H', ⟨by have := HJ5.out; have := HK2.out; first | omega | exact Nat.le_refl _⟩, ⟨by with_reducible repeat first | exact HB.out | apply below_alloc | apply pw_below_drewN | apply below_drew1⟩⟩
                · rw [if_neg c12] at H
                  exact absurd H (by simp)
              · rw [if_neg c11] at H
                have c11b0 : decide (x7_2 < (a0.size : Int)) = false := decide_eq_false c11
                clear c11
                (first | rw [c11b0] | (simp only [i64_w, i32_w]; rw [c11b0]) | skip)
                have H' := Aside0.mk H
                clear H
                go_wp2
                go_meet
                case rel => exact ⟨_, (x7_2), (by first | rfl | (simp; done) | (simp [*]; done)), H', ⟨by have := HJ5.out; have := HK2.out; first | omega | exact Nat.le_refl _⟩, ⟨by with_reducible repeat first | exact HB.out | apply below_alloc | apply pw_below_drewN | apply below_drew1⟩⟩
        case rest =>
          clear HC10
          try clear c1
          try clear p1
          try clear q1
          try clear hx1
          try clear p2
          try clear c4
          try clear c5
          try clear p6
          try clear c9
          try clear c11
          try clear c11b0
          try clear c12
          try clear c12b0
          try clear p13
          try clear q13
          try clear hx13
          try clear c15
          try clear c16
          try clear p17
          try clear q17
          try clear hx17
          try clear c19
          try clear c19b0
          try clear p13
          try clear p17
          try clear p2
          try clear p6
          try clear q13
          try clear q17
          obtain ⟨kq, x7_9, rfl, HA, HJ9, HB⟩ := hcut
          cases kq with
          | zero => exact absurd HA.out (by simp [number_Read.j2])
          | succ kj9 =>
            have H := HA.out
            clear HA
            simp only [number_Read.j2] at H
            by_cases c20 : 0 ≤ x7_5
            · rw [if_pos c20] at H
              have c20b0 := eq_true c20
              have c20b1 : decide (0 ≤ x7_5) = true := decide_eq_true c20
              clear c20
              by_cases c21 : x7_5 ≤ x7_9
              · rw [if_pos c21] at H
                have c21b0 := eq_true c21
                have c21b1 : decide (x7_5 ≤ x7_9) = true := decide_eq_true c21
                clear c21
                by_cases c22 : x7_9 ≤ (a0.size : Int)
                · rw [if_pos c22] at H
                  have c22b0 := eq_true c22
                  have c22b1 : decide (x7_9 ≤ (a0.size : Int)) = true := decide_eq_true c22
                  clear c22
                  replace H := Option.bind_eq_some_iff.mp H
                  obtain ⟨t130, A230, H⟩ := H
                  (try dsimp only at H)
                  have A23 := Aside0.mk A230
                  clear A230
                  by_cases c24 : t130 < 0
                  · rw [if_pos c24] at H
                    have c24b0 : decide (t130 < 0) = true := decide_eq_true c24
                    clear c24
                    simp only [Option.some.injEq, Prod.mk.injEq] at H
                    obtain ⟨rfl, rfl, rfl⟩ := H
                    go_wp2_with (first | ((with_reducible refine gate_callee (f := 161) rfl ?_); refine goesL_ (some 52) rfl rfl Tryz.func161 (by kernel_rfl) rfl #[.string (a0.extract (x7_5 : Int).toNat (x7_9 : Int).toNat), .bool t127] rfl (by simp only [List.map_toArray, List.map_cons, List.map_nil] <;> rfl) ?_; (with_reducible refine (number_Value.calls (a0.extract (x7_5 : Int).toNat (x7_9 : Int).toNat) t127 t130 _ A23.out).mono ?_); rintro e w' ⟨rfl, ⟨nd, rfl⟩⟩; refine ⟨_, rfl, ?_⟩))
                    go_ret3
                    exact ⟨by first | rfl | (simp [*] <;> rfl), by with_reducible repeat first | exact HB.out | apply below_alloc | apply pw_below_drewN | apply below_drew1⟩
                  · rw [if_neg c24] at H
                    have c24b0 : decide (t130 < 0) = false := decide_eq_false c24
                    clear c24
                    replace H := Option.bind_eq_some_iff.mp H
                    obtain ⟨t131, A250, H⟩ := H
                    (try dsimp only at H)
                    have A25 := Aside0.mk A250
                    clear A250
                    by_cases c26 : t131 = true
                    · subst c26
                      rw [if_pos rfl] at H
                      replace H := Option.bind_eq_some_iff.mp H
                      obtain ⟨t132, A270, H⟩ := H
                      (try dsimp only at H)
                      have A27 := Aside0.mk A270
                      clear A270
                      simp only [Option.some.injEq, Prod.mk.injEq] at H
                      obtain ⟨rfl, rfl, rfl⟩ := H
                      go_wp2_with (first | ((with_reducible refine gate_callee (f := 161) rfl ?_); refine goesL_ (some 52) rfl rfl Tryz.func161 (by kernel_rfl) rfl #[.string (a0.extract (x7_5 : Int).toNat (x7_9 : Int).toNat), .bool t127] rfl (by simp only [List.map_toArray, List.map_cons, List.map_nil] <;> rfl) ?_; (with_reducible refine (number_Value.calls (a0.extract (x7_5 : Int).toNat (x7_9 : Int).toNat) t127 t130 _ A23.out).mono ?_); rintro e w' ⟨rfl, ⟨nd, rfl⟩⟩; refine ⟨_, rfl, ?_⟩) | ((with_reducible refine gate_callee (f := 58) rfl ?_); refine goesL_ (some 58) rfl rfl Tryz.func58 (by kernel_rfl) rfl #[.string a0, .int .i64 x7_9, .string (⟨#[59]⟩ : ByteArray)] rfl (by simp only [List.map_toArray, List.map_cons, List.map_nil] <;> rfl) ?_; (with_reducible refine (sign_Begins.calls a0 x7_9 (⟨#[59]⟩ : ByteArray) true _ A25.out).mono ?_); rintro e w28 ⟨rfl, hb⟩; refine ⟨_, rfl, ?_⟩; have n0_ := Aside0.mk (below_step (by with_reducible repeat first | exact HB.out | apply below_alloc | apply pw_below_drewN | apply below_drew1) hb); clear HB; have HB := n0_; clear n0_; (try clear hb); (try clear hb2); (try clear hk); (try clear hi)) | ((with_reducible refine gate_callee (f := 162) rfl ?_); refine goesL_ (some 62) rfl rfl Tryz.func162 (by kernel_rfl) rfl #[.int .i64 t130] rfl (by simp only [List.map_toArray, List.map_cons, List.map_nil] <;> rfl) ?_; (with_reducible refine (number_Fix.calls t130 t132 _ A27.out).mono ?_); rintro e w29 ⟨rfl, hb⟩; refine ⟨_, rfl, ?_⟩; have n0_ := Aside0.mk (below_step (by with_reducible repeat first | exact HB.out | apply below_alloc | apply pw_below_drewN | apply below_drew1) hb); clear HB; have HB := n0_; clear n0_; (try clear hb); (try clear hb2); (try clear hk); (try clear hi)))
                      go_ret3
                      exact ⟨by first | rfl | (simp [*] <;> rfl), by with_reducible repeat first | exact HB.out | apply below_alloc | apply pw_below_drewN | apply below_drew1⟩
                    · replace c26 := Bool.eq_false_iff.mpr c26
                      subst c26
                      rw [if_neg (show ¬ (false = true) by decide)] at H
                      replace H := Option.bind_eq_some_iff.mp H
                      obtain ⟨t133, A300, H⟩ := H
                      (try dsimp only at H)
                      have A30 := Aside0.mk A300
                      clear A300
                      simp only [Option.some.injEq, Prod.mk.injEq] at H
                      obtain ⟨rfl, rfl, rfl⟩ := H
                      go_wp2_with (first | ((with_reducible refine gate_callee (f := 161) rfl ?_); refine goesL_ (some 52) rfl rfl Tryz.func161 (by kernel_rfl) rfl #[.string (a0.extract (x7_5 : Int).toNat (x7_9 : Int).toNat), .bool t127] rfl (by simp only [List.map_toArray, List.map_cons, List.map_nil] <;> rfl) ?_; (with_reducible refine (number_Value.calls (a0.extract (x7_5 : Int).toNat (x7_9 : Int).toNat) t127 t130 _ A23.out).mono ?_); rintro e w' ⟨rfl, ⟨nd, rfl⟩⟩; refine ⟨_, rfl, ?_⟩) | ((with_reducible refine gate_callee (f := 58) rfl ?_); refine goesL_ (some 58) rfl rfl Tryz.func58 (by kernel_rfl) rfl #[.string a0, .int .i64 x7_9, .string (⟨#[59]⟩ : ByteArray)] rfl (by simp only [List.map_toArray, List.map_cons, List.map_nil] <;> rfl) ?_; (with_reducible refine (sign_Begins.calls a0 x7_9 (⟨#[59]⟩ : ByteArray) false _ A25.out).mono ?_); rintro e w31 ⟨rfl, hb⟩; refine ⟨_, rfl, ?_⟩; have n0_ := Aside0.mk (below_step (by with_reducible repeat first | exact HB.out | apply below_alloc | apply pw_below_drewN | apply below_drew1) hb); clear HB; have HB := n0_; clear n0_; (try clear hb); (try clear hb2); (try clear hk); (try clear hi)) | ((with_reducible refine gate_callee (f := 162) rfl ?_); refine goesL_ (some 62) rfl rfl Tryz.func162 (by kernel_rfl) rfl #[.int .i64 t130] rfl (by simp only [List.map_toArray, List.map_cons, List.map_nil] <;> rfl) ?_; (with_reducible refine (number_Fix.calls t130 t133 _ A30.out).mono ?_); rintro e w32 ⟨rfl, hb⟩; refine ⟨_, rfl, ?_⟩; have n0_ := Aside0.mk (below_step (by with_reducible repeat first | exact HB.out | apply below_alloc | apply pw_below_drewN | apply below_drew1) hb); clear HB; have HB := n0_; clear n0_; (try clear hb); (try clear hb2); (try clear hk); (try clear hi)))
                      go_ret3
                      exact ⟨by first | rfl | (simp [*] <;> rfl), by with_reducible repeat first | exact HB.out | apply below_alloc | apply pw_below_drewN | apply below_drew1⟩
                · rw [if_neg c22] at H
                  exact absurd H (by simp)
              · rw [if_neg c21] at H
                exact absurd H (by simp)
            · rw [if_neg c20] at H
              exact absurd H (by simp)
  · replace c4 := Bool.eq_false_iff.mpr c4
    subst c4
    rw [if_neg (show ¬ (false = true) by decide)] at H
    simp only [Option.some.injEq, Prod.mk.injEq] at H
    obtain ⟨rfl, rfl, rfl⟩ := H
    go_enter Tryz.func118, Tryz.ntmps118
    go_wp2_with (first | ((with_reducible refine gate_callee (f := 58) rfl ?_); refine goesL_ (some 13) rfl rfl Tryz.func58 (by kernel_rfl) rfl #[.string a0, .int .i64 a1, .string (⟨#[35]⟩ : ByteArray)] rfl (by simp only [List.map_toArray, List.map_cons, List.map_nil] <;> rfl) ?_; (with_reducible refine (sign_Begins.calls a0 a1 (⟨#[35]⟩ : ByteArray) false _ A3.out).mono ?_); rintro e w33 ⟨rfl, hb⟩; refine ⟨_, rfl, ?_⟩; have n0_ := Aside0.mk (below_step (by with_reducible repeat first | exact HB.out | apply below_alloc | apply pw_below_drewN | apply below_drew1) hb); clear HB; have HB := n0_; clear n0_; (try clear hb); (try clear hb2); (try clear hk); (try clear hi)))
    go_ret3
    exact ⟨by first | rfl | (simp [*] <;> rfl), by with_reducible repeat first | exact HB.out | apply below_alloc | apply pw_below_drewN | apply below_drew1⟩
end Go.Proofs.YteccaekalcjihaaGreatDoor.PTn
namespace Go.Proofs.YteccaekalcjihaaGreatDoor.PTn
open Go.RowKit Go.Proofs.YteccaekalcjihaaGreatDoorW.PrintWords Go.Proofs.YteccaekalcjihaaGreatDoorW.PrintLast Go.Proofs.YteccaekalcjihaaGreatDoorW.PrintMore
attribute [local go_sem] max2_int min2_int max_two min_two max_three min_three max_four min_four
set_option linter.unusedVariables false
set_option linter.unusedSimpArgs false
def search_line.f (a0 : ByteArray) (a1 : Int) : Option (Int × Int) := if 0 ≤ a1 then (if a1 ≤ (a0.size : Int) then ((strings_LastIndexByte.f (a0.extract 0 (a1 : Int).toNat) 10).bind fun t138 => (if 0 ≤ (wrap64 (t138 + 1)) then (if (wrap64 (t138 + 1)) ≤ (a0.size : Int) then ((strings_IndexByte.f (a0.extract ((wrap64 (t138 + 1)) : Int).toNat a0.size) 10).bind fun t139 => (if t139 < 0 then (some (wrap64 (t138 + 1), (a0.size : Int))) else (some (wrap64 (t138 + 1), wrap64 ((wrap64 (t138 + 1)) + t139))))) else (none)) else (none))) else (none)) else (none)
set_option maxHeartbeats 8000000 in
set_option maxRecDepth 100000 in
theorem search_line.calls (a0 : ByteArray) (a1 : Int) (r1 : Int) (r2 : Int) (w : World) (h : search_line.f a0 a1 = some (r1, r2)) :
    Calls Tryz.prog 189 #[.string a0, .int .i64 a1] w fun e w' => e = .returned (.tuple #[.int .i64 r1, .int .i64 r2]) ∧ Drawn0 w w' := by
  have H : (if 0 ≤ a1 then (if a1 ≤ (a0.size : Int) then ((strings_LastIndexByte.f (a0.extract 0 (a1 : Int).toNat) 10).bind fun t138 => (if 0 ≤ (wrap64 (t138 + 1)) then (if (wrap64 (t138 + 1)) ≤ (a0.size : Int) then ((strings_IndexByte.f (a0.extract ((wrap64 (t138 + 1)) : Int).toNat a0.size) 10).bind fun t139 => (if t139 < 0 then (some (wrap64 (t138 + 1), (a0.size : Int))) else (some (wrap64 (t138 + 1), wrap64 ((wrap64 (t138 + 1)) + t139))))) else (none)) else (none))) else (none)) else (none)) = some (r1, r2) := h
  clear h
  by_cases c3 : 0 ≤ a1
  · rw [if_pos c3] at H
    have c3b0 := eq_true c3
    have c3b1 : decide (0 ≤ a1) = true := decide_eq_true c3
    clear c3
    by_cases c4 : a1 ≤ (a0.size : Int)
    · rw [if_pos c4] at H
      have c4b0 := eq_true c4
      have c4b1 : decide (a1 ≤ (a0.size : Int)) = true := decide_eq_true c4
      clear c4
      replace H := Option.bind_eq_some_iff.mp H
      obtain ⟨t138, A50, H⟩ := H
      (try dsimp only at H)
      have A5 := Aside0.mk A50
      clear A50
      obtain ⟨ji6, hji6⟩ : ∃ j_ : Int, (wrap64 (t138 + 1)) = j_ := ⟨_, rfl⟩
      replace H : (if 0 ≤ (ji6) then (if (ji6) ≤ (a0.size : Int) then ((strings_IndexByte.f (a0.extract ((ji6) : Int).toNat a0.size) 10).bind fun t139 => (if t139 < 0 then (some (ji6, (a0.size : Int))) else (some (ji6, wrap64 ((ji6) + t139))))) else (none)) else (none)) = some (r1, r2) := by first | (rw [hji6] at H; exact H) | (simp only [hji6] at H ⊢; exact H)
      (try rw [hji6] at A5)
      have hji6w : (IntKind.i64.wrap (t138 + 1)) = ji6 := (i64_w _).trans hji6
      by_cases c7 : 0 ≤ (ji6)
      · rw [if_pos c7] at H
        have c7b0 := eq_true c7
        have c7b1 : decide (0 ≤ (ji6)) = true := decide_eq_true c7
        clear c7
        by_cases c8 : (ji6) ≤ (a0.size : Int)
        · rw [if_pos c8] at H
          have c8b0 := eq_true c8
          have c8b1 : decide ((ji6) ≤ (a0.size : Int)) = true := decide_eq_true c8
          clear c8
          replace H := Option.bind_eq_some_iff.mp H
          obtain ⟨t139, A90, H⟩ := H
          (try dsimp only at H)
          have A9 := Aside0.mk A90
          clear A90
          by_cases c10 : t139 < 0
          · rw [if_pos c10] at H
            have c10b0 : decide (t139 < 0) = true := decide_eq_true c10
            clear c10
            simp only [Option.some.injEq, Prod.mk.injEq] at H
            obtain ⟨rfl, rfl⟩ := H
            go_enter Tryz.func189, Tryz.ntmps189
            go_wp2_with (first | ((with_reducible refine gate_callee (f := 209) rfl ?_); refine goesL_ (some 9) rfl rfl Tryz.func209 (by kernel_rfl) rfl #[.string (a0.extract 0 (a1 : Int).toNat), .int .u8 10] rfl (by simp only [List.map_toArray, List.map_cons, List.map_nil] <;> rfl) ?_; (with_reducible refine (strings_LastIndexByte.calls (a0.extract 0 (a1 : Int).toNat) 10 t138 _ A5.out).mono ?_); rintro e w' ⟨rfl, ⟨nd, rfl⟩⟩; refine ⟨_, rfl, ?_⟩) | ((with_reducible refine gate_callee (f := 65) rfl ?_); refine goesL_ (some 14) rfl rfl Tryz.func65 (by kernel_rfl) rfl #[.string (a0.extract ((ji6) : Int).toNat a0.size), .int .u8 10] rfl (by (try simp only [List.map_toArray, List.map_cons, List.map_nil]); first | done | (simp only [hji6]; rfl) | rfl | (simp only [List.length_drop, List.length_take]; rfl)) ?_; (with_reducible refine (strings_IndexByte.calls (a0.extract ((ji6) : Int).toNat a0.size) 10 t139 _ A9.out).mono ?_); rintro e w' ⟨rfl, ⟨nd, rfl⟩⟩; refine ⟨_, rfl, ?_⟩))
            go_ret2
            exact ⟨by first | rfl | (simp; done) | (simp only [← hji6] <;> (first | rfl | simp)) | (simp [*]; done), by repeat (first | exact Drawn0.refl _ | apply Drawn0.step)⟩
          · rw [if_neg c10] at H
            have c10b0 : decide (t139 < 0) = false := decide_eq_false c10
            clear c10
            simp only [Option.some.injEq, Prod.mk.injEq] at H
            obtain ⟨rfl, rfl⟩ := H
            go_enter Tryz.func189, Tryz.ntmps189
            go_wp2_with (first | ((with_reducible refine gate_callee (f := 209) rfl ?_); refine goesL_ (some 9) rfl rfl Tryz.func209 (by kernel_rfl) rfl #[.string (a0.extract 0 (a1 : Int).toNat), .int .u8 10] rfl (by simp only [List.map_toArray, List.map_cons, List.map_nil] <;> rfl) ?_; (with_reducible refine (strings_LastIndexByte.calls (a0.extract 0 (a1 : Int).toNat) 10 t138 _ A5.out).mono ?_); rintro e w' ⟨rfl, ⟨nd, rfl⟩⟩; refine ⟨_, rfl, ?_⟩) | ((with_reducible refine gate_callee (f := 65) rfl ?_); refine goesL_ (some 14) rfl rfl Tryz.func65 (by kernel_rfl) rfl #[.string (a0.extract ((ji6) : Int).toNat a0.size), .int .u8 10] rfl (by (try simp only [List.map_toArray, List.map_cons, List.map_nil]); first | done | (simp only [hji6]; rfl) | rfl | (simp only [List.length_drop, List.length_take]; rfl)) ?_; (with_reducible refine (strings_IndexByte.calls (a0.extract ((ji6) : Int).toNat a0.size) 10 t139 _ A9.out).mono ?_); rintro e w' ⟨rfl, ⟨nd, rfl⟩⟩; refine ⟨_, rfl, ?_⟩))
            go_ret2
            exact ⟨by first | rfl | (simp; done) | (simp only [← hji6] <;> (first | rfl | simp)) | (simp [*]; done), by repeat (first | exact Drawn0.refl _ | apply Drawn0.step)⟩
        · rw [if_neg c8] at H
          exact absurd H (by simp)
      · rw [if_neg c7] at H
        exact absurd H (by simp)
    · rw [if_neg c4] at H
      exact absurd H (by simp)
  · rw [if_neg c3] at H
    exact absurd H (by simp)
end Go.Proofs.YteccaekalcjihaaGreatDoor.PTn
namespace Go.Proofs.YteccaekalcjihaaGreatDoor.PTn
open Go.RowKit Go.Proofs.YteccaekalcjihaaGreatDoorW.PrintWords Go.Proofs.YteccaekalcjihaaGreatDoorW.PrintLast Go.Proofs.YteccaekalcjihaaGreatDoorW.PrintMore
attribute [local go_sem] max2_int min2_int max_two min_two max_three min_three max_four min_four
set_option linter.unusedVariables false
set_option linter.unusedSimpArgs false
def stringslite_Cut.f (a0 : ByteArray) (a1 : ByteArray) : Option (ByteArray × ByteArray × Bool) := (stringslite_Index.f a0 a1).bind fun t134 => (if t134 ≥ 0 then (if 0 ≤ t134 then (if t134 ≤ (a0.size : Int) then (if 0 ≤ (wrap64 (t134 + (a1.size : Int))) then (if (wrap64 (t134 + (a1.size : Int))) ≤ (a0.size : Int) then (some (a0.extract 0 (t134 : Int).toNat, a0.extract ((wrap64 (t134 + (a1.size : Int))) : Int).toNat a0.size, true)) else (none)) else (none)) else (none)) else (none)) else (some (a0, (⟨#[]⟩ : ByteArray), false)))
set_option maxHeartbeats 8000000 in
set_option maxRecDepth 100000 in
theorem stringslite_Cut.calls (a0 : ByteArray) (a1 : ByteArray) (r1 : ByteArray) (r2 : ByteArray) (r3 : Bool) (w : World) (h : stringslite_Cut.f a0 a1 = some (r1, r2, r3)) :
    Calls Tryz.prog 172 #[.string a0, .string a1] w fun e w' => e = .returned (.tuple #[.string r1, .string r2, .bool r3]) ∧ Drawn0 w w' := by
  have H : ((stringslite_Index.f a0 a1).bind fun t134 => (if t134 ≥ 0 then (if 0 ≤ t134 then (if t134 ≤ (a0.size : Int) then (if 0 ≤ (wrap64 (t134 + (a1.size : Int))) then (if (wrap64 (t134 + (a1.size : Int))) ≤ (a0.size : Int) then (some (a0.extract 0 (t134 : Int).toNat, a0.extract ((wrap64 (t134 + (a1.size : Int))) : Int).toNat a0.size, true)) else (none)) else (none)) else (none)) else (none)) else (some (a0, (⟨#[]⟩ : ByteArray), false)))) = some (r1, r2, r3) := h
  clear h
  replace H := Option.bind_eq_some_iff.mp H
  obtain ⟨t134, A30, H⟩ := H
  (try dsimp only at H)
  have A3 := Aside0.mk A30
  clear A30
  by_cases c4 : t134 ≥ 0
  · rw [if_pos c4] at H
    have c4b0 : decide (0 ≤ t134) = true := decide_eq_true c4
    clear c4
    by_cases c5 : 0 ≤ t134
    · rw [if_pos c5] at H
      have c5b0 := eq_true c5
      have c5b1 : decide (0 ≤ t134) = true := decide_eq_true c5
      clear c5
      by_cases c6 : t134 ≤ (a0.size : Int)
      · rw [if_pos c6] at H
        have c6b0 := eq_true c6
        have c6b1 : decide (t134 ≤ (a0.size : Int)) = true := decide_eq_true c6
        clear c6
        obtain ⟨ji7, hji7⟩ : ∃ j_ : Int, (wrap64 (t134 + (a1.size : Int))) = j_ := ⟨_, rfl⟩
        replace H : (if 0 ≤ (ji7) then (if (ji7) ≤ (a0.size : Int) then (some (a0.extract 0 (t134 : Int).toNat, a0.extract ((ji7) : Int).toNat a0.size, true)) else (none)) else (none)) = some (r1, r2, r3) := by first | (rw [hji7] at H; exact H) | (simp only [hji7] at H ⊢; exact H)
        (try rw [hji7] at A3)
        have hji7w : (IntKind.i64.wrap (t134 + (a1.size : Int))) = ji7 := (i64_w _).trans hji7
        by_cases c8 : 0 ≤ (ji7)
        · rw [if_pos c8] at H
          have c8b0 := eq_true c8
          have c8b1 : decide (0 ≤ (ji7)) = true := decide_eq_true c8
          clear c8
          by_cases c9 : (ji7) ≤ (a0.size : Int)
          · rw [if_pos c9] at H
            have c9b0 := eq_true c9
            have c9b1 : decide ((ji7) ≤ (a0.size : Int)) = true := decide_eq_true c9
            clear c9
            simp only [Option.some.injEq, Prod.mk.injEq] at H
            obtain ⟨rfl, rfl, rfl⟩ := H
            go_enter Tryz.func172, Tryz.ntmps172
            go_wp2_with (first | (go_at_call 193; (with_reducible refine (stringslite_Index.calls a0 a1 t134 _ A3.out).mono ?_); rintro e w' ⟨rfl, ⟨nd, rfl⟩⟩; (try first | exact ⟨rfl, _, World.drewN_drewN _ _ _⟩ | exact ⟨rfl, _, Eq.trans (World.drewN_drewN _ _ _) (congrArg (World.drewN _) (Nat.add_assoc _ _ _))⟩)))
            repeat (go_quiet (first | (go_at_call 193; (with_reducible refine (stringslite_Index.calls a0 a1 t134 _ A3.out).mono ?_); rintro e w' ⟨rfl, ⟨nd, rfl⟩⟩; (try first | exact ⟨rfl, _, World.drewN_drewN _ _ _⟩ | exact ⟨rfl, _, Eq.trans (World.drewN_drewN _ _ _) (congrArg (World.drewN _) (Nat.add_assoc _ _ _))⟩))); try go_wp2_with (first | (go_at_call 193; (with_reducible refine (stringslite_Index.calls a0 a1 t134 _ A3.out).mono ?_); rintro e w' ⟨rfl, ⟨nd, rfl⟩⟩; (try first | exact ⟨rfl, _, World.drewN_drewN _ _ _⟩ | exact ⟨rfl, _, Eq.trans (World.drewN_drewN _ _ _) (congrArg (World.drewN _) (Nat.add_assoc _ _ _))⟩))))
            go_ret3
            exact ⟨by first | rfl | (simp; done) | (simp only [← hji7] <;> (first | rfl | simp)) | (simp [*]; done), by repeat (first | exact Drawn0.refl _ | apply Drawn0.step)⟩
          · rw [if_neg c9] at H
            exact absurd H (by simp)
        · rw [if_neg c8] at H
          exact absurd H (by simp)
      · rw [if_neg c6] at H
        exact absurd H (by simp)
    · rw [if_neg c5] at H
      exact absurd H (by simp)
  · rw [if_neg c4] at H
    have c4b0 : decide (0 ≤ t134) = false := decide_eq_false c4
    clear c4
    simp only [Option.some.injEq, Prod.mk.injEq] at H
    obtain ⟨rfl, rfl, rfl⟩ := H
    go_enter Tryz.func172, Tryz.ntmps172
    go_wp2_with (first | (go_at_call 193; (with_reducible refine (stringslite_Index.calls a0 a1 t134 _ A3.out).mono ?_); rintro e w' ⟨rfl, ⟨nd, rfl⟩⟩; (try first | exact ⟨rfl, _, World.drewN_drewN _ _ _⟩ | exact ⟨rfl, _, Eq.trans (World.drewN_drewN _ _ _) (congrArg (World.drewN _) (Nat.add_assoc _ _ _))⟩)))
    repeat (go_quiet (first | (go_at_call 193; (with_reducible refine (stringslite_Index.calls a0 a1 t134 _ A3.out).mono ?_); rintro e w' ⟨rfl, ⟨nd, rfl⟩⟩; (try first | exact ⟨rfl, _, World.drewN_drewN _ _ _⟩ | exact ⟨rfl, _, Eq.trans (World.drewN_drewN _ _ _) (congrArg (World.drewN _) (Nat.add_assoc _ _ _))⟩))); try go_wp2_with (first | (go_at_call 193; (with_reducible refine (stringslite_Index.calls a0 a1 t134 _ A3.out).mono ?_); rintro e w' ⟨rfl, ⟨nd, rfl⟩⟩; (try first | exact ⟨rfl, _, World.drewN_drewN _ _ _⟩ | exact ⟨rfl, _, Eq.trans (World.drewN_drewN _ _ _) (congrArg (World.drewN _) (Nat.add_assoc _ _ _))⟩))))
    go_ret3
    exact ⟨by first | rfl | (simp; done) | (simp [*]; done), by repeat (first | exact Drawn0.refl _ | apply Drawn0.step)⟩
end Go.Proofs.YteccaekalcjihaaGreatDoor.PTn
namespace Go.Proofs.YteccaekalcjihaaGreatDoor.PTn
open Go.RowKit Go.Proofs.YteccaekalcjihaaGreatDoorW.PrintWords Go.Proofs.YteccaekalcjihaaGreatDoorW.PrintLast Go.Proofs.YteccaekalcjihaaGreatDoorW.PrintMore
attribute [local go_sem] max2_int min2_int max_two min_two max_three min_three max_four min_four
set_option linter.unusedVariables false
set_option linter.unusedSimpArgs false
def strings_Cut.f (a0 : ByteArray) (a1 : ByteArray) : Option (ByteArray × ByteArray × Bool) := (stringslite_Cut.f a0 a1).bind fun bt135 => (some (bt135.1, bt135.2.1, bt135.2.2))
set_option maxHeartbeats 8000000 in
set_option maxRecDepth 100000 in
theorem strings_Cut.calls (a0 : ByteArray) (a1 : ByteArray) (r1 : ByteArray) (r2 : ByteArray) (r3 : Bool) (w : World) (h : strings_Cut.f a0 a1 = some (r1, r2, r3)) :
    Calls Tryz.prog 130 #[.string a0, .string a1] w fun e w' => e = .returned (.tuple #[.string r1, .string r2, .bool r3]) ∧ Drawn0 w w' := by
  have H : ((stringslite_Cut.f a0 a1).bind fun bt135 => (some (bt135.1, bt135.2.1, bt135.2.2))) = some (r1, r2, r3) := h
  clear h
  replace H := Option.bind_eq_some_iff.mp H
  obtain ⟨⟨t135, t136, t137⟩, A30, H⟩ := H
  (try dsimp only at H)
  have A3 := Aside0.mk A30
  clear A30
  simp only [Option.some.injEq, Prod.mk.injEq] at H
  obtain ⟨rfl, rfl, rfl⟩ := H
  go_enter Tryz.func130, Tryz.ntmps130
  go_wp2_with (first | ((with_reducible refine gate_callee (f := 172) rfl ?_); refine goesL_ (some 9) rfl rfl Tryz.func172 (by kernel_rfl) rfl #[.string a0, .string a1] rfl (by simp only [List.map_toArray, List.map_cons, List.map_nil] <;> rfl) ?_; (with_reducible refine (stringslite_Cut.calls a0 a1 t135 t136 t137 _ A3.out).mono ?_); rintro e w' ⟨rfl, ⟨nd, rfl⟩⟩; refine ⟨_, rfl, ?_⟩))
  go_ret3
  exact ⟨by first | rfl | (simp; done) | (simp [*]; done), by repeat (first | exact Drawn0.refl _ | apply Drawn0.step)⟩
end Go.Proofs.YteccaekalcjihaaGreatDoor.PTn
set_option linter.unusedVariables false
namespace Go.Proofs.YteccaekalcjihaaGreatDoor.PTn
open Go.RowKit Go.Lib Go.Proofs.YteccaekalcjihaaGreatDoorW.PrintWords
def segOk (l : List UInt8) (i fr tt : Nat) : Option (List UInt8) :=
  match l.drop (fr - 1) with
  | c :: d => if 1 ≤ fr ∧ fr ≤ i ∧ i ≤ tt ∧ c = 10 ∧ !((d.take (tt - fr)).elem 10) ∧ (d.drop (tt - fr)).head? = some 10 then some (d.take (tt - fr)) else none
  | [] => none
def chkL (l : List UInt8) (key : ByteArray) : List (Nat × Nat) → Nat → Nat → Option (ByteArray × Bool)
  | [], low, high => if high ≤ low then some (⟨#[]⟩, false) else none
  | (fr, tt) :: st, low, high => if low < high then (segOk l ((low + high) / 2) fr tt).bind fun seg => (strings_Cut.f ⟨seg.toArray⟩ ⟨#[32]⟩).bind fun x =>
      if Op.bytesLess x.1.toList key.toList = true then chkL l key st (tt + 1) high
      else if (!(Op.bytesLess x.1.toList key.toList || x.1.toList == key.toList)) = true then chkL l key st low fr
      else some (x.2.1, !key.toList.isEmpty)
    else none
def steps : List (Nat × Nat) := [(14855, 14867), (22294, 22307), (18572, 18591), (20443, 20453), (19511, 19520), (19042, 19053), (18815, 18827), (18927, 18936), (18981, 18992), (19006, 19017), (19024, 19030), (19031, 19041)]
def search_Line.f (t key : ByteArray) : Option (ByteArray × Bool) := if t.size ≤ 1000000 then chkL t.data.toList key steps 0 t.size else none
theorem idxGo_first (c : UInt8) : ∀ (l : List UInt8) (n m : Nat), (l.take n).elem c = false → l[n]? = some c → idxGo c l m = ((n + m : Nat) : Int)
  | [], n, m, _, h => by simp at h
  | b :: l, 0, m, _, h => by
    simp at h
    simp [idxGo, h]
  | b :: l, n + 1, m, h, h2 => by
    simp only [List.take_succ_cons, List.elem_cons] at h
    have hb : (c == b) = false := by
      cases hc : c == b
      · rfl
      · rw [hc] at h; simp at h
    rw [hb] at h
    have h3 := idxGo_first c l n (m + 1) (by simpa using h) (by simpa using h2)
    have hb2 : (b == c) = false := by
      rw [beq_eq_false_iff_ne] at hb ⊢
      exact fun e => hb e.symm
    simp only [idxGo, hb2]
    rw [if_neg (by simp), h3]
    congr 1
    omega
theorem segOk_facts {l : List UInt8} {i fr tt : Nat} {seg : List UInt8} (h : segOk l i fr tt = some seg) : 1 ≤ fr ∧ fr ≤ i ∧ i ≤ tt ∧ l[fr - 1]? = some 10 ∧ (∀ j, fr ≤ j → j < tt → l[j]? ≠ some 10) ∧ l[tt]? = some 10 ∧ seg = (l.drop fr).take (tt - fr) ∧ tt < l.length := by
  unfold segOk at h
  split at h
  · rename_i c d hd
    split at h
    · rename_i hc
      obtain ⟨h1, h2, h3, rfl, h5, h6⟩ := hc
      obtain rfl := Option.some.inj h
      have e1 : d = l.drop fr := by
        have : l.drop fr = (l.drop (fr - 1)).drop 1 := by rw [List.drop_drop]; congr 1; omega
        rw [this, hd]; rfl
      have e2 : l[fr - 1]? = some 10 := by
        have : l[fr - 1]? = (l.drop (fr - 1))[0]? := by simp
        rw [this, hd]; rfl
      have e3 : l[tt]? = some 10 := by
        rw [e1, List.drop_drop, List.head?_drop] at h6
        rw [← h6]; congr 1; omega
      refine ⟨h1, h2, h3, e2, fun j hj1 hj2 he => ?_, e3, by rw [e1], (List.getElem?_eq_some_iff.1 e3).1⟩
      have hm : (10 : UInt8) ∈ d.take (tt - fr) := by
        rw [e1]
        refine List.mem_of_getElem? (i := j - fr) ?_
        rw [List.getElem?_take, if_pos (by omega), List.getElem?_drop, ← he]
        congr 1; omega
      simp at h5
      exact h5 hm
    · cases h
  · cases h
theorem line_last {t : ByteArray} {i fr tt : Nat} (h2 : fr ≤ i) (h1 : 1 ≤ fr) (h3 : i ≤ tt) (h4 : t.data.toList[fr - 1]? = some 10) (h5 : ∀ j, fr ≤ j → j < tt → t.data.toList[j]? ≠ some 10) (h8 : tt < t.size) : Lib.lastIndexByte (t.extract 0 i) 10 = ((fr - 1 : Nat) : Int) := by
  have hl : t.data.toList.length = t.size := by simp
  have hx : (t.extract 0 i).size = i := by rw [ByteArray.size_extract]; omega
  have e : (t.extract 0 i).data.toList = t.data.toList.take i := by rw [Lib.extract_data]; simp
  have hxa : ∀ j, j < i → ∀ x, t.data.toList[j]? = some x → (t.extract 0 i).data[j]! = x := by
    intro j hj x hx'
    have h9 : (t.extract 0 i).data.toList[j]? = some x := by rw [e, List.getElem?_take, if_pos hj, hx']
    rw [Array.getElem?_toList] at h9
    rw [getElem!_def, h9]
  have h10 := hxa (fr - 1) (by omega) 10 h4
  rcases Lib.lastIndexByte_spec (t.extract 0 i) 10 with ⟨_, hn⟩ | ⟨k, hk, e2, hc, hn⟩
  · exact absurd (by rw [h10]; rfl) (hn (fr - 1) (by omega))
  · rw [hx] at hk hn
    rw [e2]
    congr 1
    rcases Nat.lt_trichotomy k (fr - 1) with hlt | heq | hgt
    · exact absurd (by rw [h10]; rfl) (hn (fr - 1) hlt (by omega))
    · exact heq
    · exfalso
      have hj : k < t.data.toList.length := by omega
      have h11 := hxa k hk _ (List.getElem?_eq_getElem hj)
      rw [h11] at hc
      refine h5 k (by omega) (by omega) ?_
      rw [List.getElem?_eq_getElem hj]
      congr 1
      exact UInt8.toNat_inj.1 (by simpa using Int.ofNat.inj hc)
theorem line_next {t : ByteArray} {fr tt : Nat} (h : fr ≤ tt) (h5 : ∀ j, fr ≤ j → j < tt → t.data.toList[j]? ≠ some 10) (h6 : t.data.toList[tt]? = some 10) : idxGo 10 (t.extract fr t.size).data.toList 0 = ((tt - fr : Nat) : Int) := by
  have hl : t.data.toList.length = t.size := by simp
  have e : (t.extract fr t.size).data.toList = t.data.toList.drop fr := by
    rw [Lib.extract_data]
    exact List.take_of_length_le (by rw [List.length_drop, hl]; exact Nat.le_refl _)
  rw [e]
  have := idxGo_first 10 (t.data.toList.drop fr) (tt - fr) 0 ?_ ?_
  · rw [this, Nat.add_zero]
  · rw [← Bool.not_eq_true]
    intro hm
    obtain ⟨j, hj⟩ := List.getElem?_of_mem (List.mem_of_elem_eq_true hm)
    rw [List.getElem?_take] at hj
    split at hj
    · rw [List.getElem?_drop] at hj
      exact h5 (fr + j) (by omega) (by omega) hj
    · cases hj
  · rw [List.getElem?_drop, ← h6]
    congr 1; omega
theorem line_of {t : ByteArray} {i a b : Int} {x y : Int} (p1 : 0 ≤ i) (p2 : i ≤ (t.size : Int)) (p3 : (t.extract 0 i.toNat).size < 1000000000) (hx : Lib.lastIndexByte (t.extract 0 i.toNat) 10 = x) (ha : wrap64 (x + 1) = a) (p4 : 0 ≤ a) (p5 : a ≤ (t.size : Int)) (hy : idxGo 10 (t.extract a.toNat t.size).data.toList 0 = y) (p6 : ¬ y < 0) (hb : wrap64 (a + y) = b) : search_line.f t i = some (a, b) := by
  unfold search_line.f strings_LastIndexByte.f strings_IndexByte.f
  rw [if_pos p1, if_pos p2, if_pos p3, Option.bind_some, hx, ha, if_pos p4, if_pos p5, Option.bind_some]
  rw [show (Int.toNat 10).toUInt8 = 10 from rfl, hy, if_neg p6, hb]
theorem line_at {t : ByteArray} {i fr tt : Nat} {seg : List UInt8} (hs : t.size ≤ 1000000) (h : segOk t.data.toList i fr tt = some seg) : search_line.f t (i : Int) = some ((fr : Int), (tt : Int)) ∧ t.extract fr tt = ⟨seg.toArray⟩ ∧ fr ≤ tt ∧ tt < t.size := by
  obtain ⟨h1, h2, h3, h4, h5, h6, h7, h8⟩ := segOk_facts h
  have hl : t.data.toList.length = t.size := by simp
  rw [hl] at h8
  clear h hl
  have hlast := line_last h2 h1 h3 h4 h5 h8
  have hidx := line_next (Nat.le_trans h2 h3) h5 h6
  have w1 : wrap64 (((fr - 1 : Nat) : Int) + 1) = (fr : Int) := by
    clear hlast hidx h4 h5 h6 h7
    unfold wrap64; omega
  have w2 : wrap64 ((fr : Int) + ((tt - fr : Nat) : Int)) = (tt : Int) := by
    clear hlast hidx h4 h5 h6 h7 w1
    unfold wrap64; omega
  have hz : (t.extract 0 ((i : Nat) : Int).toNat).size < 1000000000 := by
    clear hlast hidx h4 h5 h6 h7 w1 w2
    rw [ByteArray.size_extract]; omega
  refine ⟨line_of (Int.natCast_nonneg i) (Int.ofNat_le.2 (Nat.le_trans h3 (Nat.le_of_lt h8))) hz hlast w1 (Int.natCast_nonneg _) (Int.ofNat_le.2 (Nat.le_trans h2 (Nat.le_trans h3 (Nat.le_of_lt h8)))) hidx (Int.not_lt.2 (Int.natCast_nonneg _)) w2, ?_, Nat.le_trans h2 h3, h8⟩
  have e : (t.extract fr tt).data.toList = seg := by
    rw [Lib.extract_data, h7]
  cases hh : t.extract fr tt with
  | mk d =>
    rw [hh] at e
    congr 1
    exact Array.toList_inj.1 (by rw [e])
theorem run_gtr_str (w : World) (t : TypeId) (a b : ByteArray) (x : Bool) (h : (!(Op.bytesLess a.toList b.toList || a.toList == b.toList)) = x) : (binOp .gtr t (.string a) (.string b)).run Tryz.prog w = .ok (.bool x) w := by
  subst h
  rfl
set_option maxHeartbeats 4000000 in
set_option maxRecDepth 100000 in
theorem search_Line.calls (t key : ByteArray) (r1 : ByteArray) (r2 : Bool) (w : World) (h : search_Line.f t key = some (r1, r2)) :
    Calls Tryz.prog 164 #[.string t, .string key] w fun e w' => e = .returned (.tuple #[.string r1, .bool r2]) ∧ Drawn0 w w' := by
  unfold search_Line.f at h
  split at h
  · rename_i hs
    have HC0 := Aside0.mk h
    have HS := Aside0.mk hs
    obtain ⟨st0, hst⟩ : ∃ st, steps = st := ⟨_, rfl⟩
    rw [hst] at HC0
    clear h hs hst
    go_enter Tryz.func164, Tryz.ntmps164
    go_wp2
    refine wp_scope_ghost 0 (fun kq a' w' => ∃ (st : List (Nat × Nat)) (low high : Nat) (u4 u8 u9 u10 u11 u12 u13 u14 u15 u16 u17 u18 u19 u20 u21 u22 u23 u24 u25 u26 u27 u28 u29 u30 u31 u32 u33 u34 u35 u36 u37 u38 u39 u40 u41 u42 u43 u44 u45 u46 u47 : Value), a' = { tmps := #[.string t, .string key, undef, undef, u4, .bool false, .int .i64 low, .int .i64 high, u8, u9, u10, u11, u12, u13, u14, u15, u16, u17, u18, u19, u20, u21, u22, u23, u24, u25, u26, u27, u28, u29, u30, u31, u32, u33, u34, u35, u36, u37, u38, u39, u40, u41, u42, u43, u44, u45, u46, u47], defers := [] } ∧ Aside0 (chkL t.data.toList key st low high = some (r1, r2)) ∧ Aside0 (st.length < kq) ∧ Aside0 (low ≤ 1000001) ∧ Aside0 (high ≤ 1000000) ∧ Drawn0 w w') rfl ?_ ?_
    · intro kq a' w' hI J K hJ hK
      obtain ⟨st, low, high, u4, u8, u9, u10, u11, u12, u13, u14, u15, u16, u17, u18, u19, u20, u21, u22, u23, u24, u25, u26, u27, u28, u29, u30, u31, u32, u33, u34, u35, u36, u37, u38, u39, u40, u41, u42, u43, u44, u45, u46, u47, rfl, HC, HK, HL, HH, HD⟩ := hI
      clear HC0
      cases st with
      | nil =>
        have hc := HC.out
        simp only [chkL] at hc
        split at hc
        · rename_i hle
          have c1 : decide ((high : Int) ≤ (low : Int)) = true := decide_eq_true (by omega)
          have c2 : decide (high ≤ low) = true := decide_eq_true hle
          have hc := Prod.mk.inj (Option.some.inj hc)
          obtain ⟨rfl, rfl⟩ := hc
          clear hle HC
          go_wp2
          rw [Exit.jump_ret]
          go_ret2
          exact ⟨rfl, HD⟩
        · cases hc
      | cons p st =>
        obtain ⟨fr, tt⟩ := p
        have hc := HC.out
        simp only [chkL] at hc
        split at hc
        · rename_i hlt
          obtain ⟨seg, hseg, hc⟩ := Option.bind_eq_some_iff.1 hc
          obtain ⟨⟨k, r, b⟩, hcut, hc⟩ := Option.bind_eq_some_iff.1 hc
          obtain ⟨m1, m2, m3, m4⟩ := line_at HS.out hseg
          rw [← m2] at hcut
          have c1 : decide ((high : Int) ≤ (low : Int)) = false := decide_eq_false (by omega)
          have c2 : decide (high ≤ low) = false := decide_eq_false (by omega)
          obtain ⟨mid, hmid⟩ : ∃ mid, (low + high) / 2 = mid := ⟨_, rfl⟩
          rw [hmid] at m1
          have q1 : wrap64 ((wrap64 ((low : Int) + (high : Int))).tdiv 2) = (mid : Int) := by
            have a1 := HL.out
            have a2 := HH.out
            have a3 : wrap64 ((low : Int) + (high : Int)) = (low : Int) + (high : Int) := by unfold wrap64; omega
            rw [a3, Int.tdiv_eq_ediv_of_nonneg (by omega)]
            unfold wrap64
            omega
          have q4 : (fr : Int) ≤ (tt : Int) := by omega
          have q5 : (tt : Int) ≤ (t.size : Int) := by omega
          have q6 : (tt : Int) ≤ 1000000 := by have := HS.out; omega
          have M1 := Aside0.mk m1
          have MC := Aside0.mk hcut
          have ML := Aside0.mk (show tt + 1 ≤ 1000001 by have := HS.out; omega)
          have MF := Aside0.mk (show fr ≤ 1000000 by have := HS.out; omega)
          clear hseg hcut m1 m2 m3 m4 hmid hlt HC
          have HKK := Aside0.mk (show st.length + 1 < kq from HK.out)
          clear HK
          by_cases hk1 : Op.bytesLess k.toList key.toList = true
          · simp only [hk1, if_true] at hc
            have HN := Aside0.mk hc
            clear hc
            go_wp2_with (first | (go_at_call 189; (with_reducible refine (search_line.calls t (mid : Int) (fr : Int) (tt : Int) _ M1.out).mono ?_); rintro e w1 ⟨rfl, ⟨nd, rfl⟩⟩) | (go_at_call 130; (with_reducible refine (strings_Cut.calls (t.extract fr tt) ⟨#[32]⟩ k r b _ MC.out).mono ?_); rintro e w2 ⟨rfl, ⟨nd2, rfl⟩⟩))
            go_step3
            exact ⟨rfl, hK _ _ (Handed.intro (kq - 1) (by have := HKK.out; omega) (hJ _ _ _ ⟨st, tt + 1, high, _, _, _, _, _, _, _, _, _, _, _, _, _, _, _, _, _, _, _, _, _, _, _, _, _, _, _, _, _, _, _, _, _, _, _, _, _, _, _, _, _, rfl, HN, ⟨by have := HKK.out; omega⟩, ML, HH, (by repeat (first | exact HD | apply Drawn0.step))⟩))⟩
          · have hk1' : Op.bytesLess k.toList key.toList = false := by simpa using hk1
            clear hk1
            simp only [hk1', Bool.false_or] at hc
            rw [if_neg (by simp)] at hc
            by_cases hk2 : (k.toList == key.toList) = true
            · have hg := fun w' => run_gtr_str w' 9 k key false (by rw [hk1', hk2]; rfl)
              simp only [hk2] at hc
              rw [if_neg (by simp)] at hc
              have hc := Prod.mk.inj (Option.some.inj hc)
              obtain ⟨e1, e2⟩ := hc
              have E2 := Aside0.mk e2
              have E1 := Aside0.mk e1
              clear e1 e2
              go_wp2_with (first | (go_at_call 189; (with_reducible refine (search_line.calls t (mid : Int) (fr : Int) (tt : Int) _ M1.out).mono ?_); rintro e w1 ⟨rfl, ⟨nd, rfl⟩⟩) | (go_at_call 130; (with_reducible refine (strings_Cut.calls (t.extract fr tt) ⟨#[32]⟩ k r b _ MC.out).mono ?_); rintro e w2 ⟨rfl, ⟨nd2, rfl⟩⟩))
              rw [Exit.jump_ret]
              go_ret2
              exact ⟨by rw [← E1.out, ← E2.out]; rfl, (by repeat (first | exact HD | apply Drawn0.step))⟩
            · have hk2' : (k.toList == key.toList) = false := by simpa using hk2
              clear hk2
              have hg := fun w' => run_gtr_str w' 9 k key true (by rw [hk1', hk2']; rfl)
              simp only [hk2'] at hc
              rw [if_pos (by simp)] at hc
              have HN := Aside0.mk hc
              clear hc
              go_wp2_with (first | (go_at_call 189; (with_reducible refine (search_line.calls t (mid : Int) (fr : Int) (tt : Int) _ M1.out).mono ?_); rintro e w1 ⟨rfl, ⟨nd, rfl⟩⟩) | (go_at_call 130; (with_reducible refine (strings_Cut.calls (t.extract fr tt) ⟨#[32]⟩ k r b _ MC.out).mono ?_); rintro e w2 ⟨rfl, ⟨nd2, rfl⟩⟩))
              go_step3
              exact ⟨rfl, hK _ _ (Handed.intro (kq - 1) (by have := HKK.out; omega) (hJ _ _ _ ⟨st, low, fr, _, _, _, _, _, _, _, _, _, _, _, _, _, _, _, _, _, _, _, _, _, _, _, _, _, _, _, _, _, _, _, _, _, _, _, _, _, _, _, _, _, rfl, HN, ⟨by have := HKK.out; omega⟩, HL, MF, (by repeat (first | exact HD | apply Drawn0.step))⟩))⟩
        · cases hc
    · intro hat
      go_wp2
      go_step3
      rename_i hh
      exact hh _ _ (hat.go (st0.length + 1) _ _ ⟨st0, 0, t.size, _, _, _, _, _, _, _, _, _, _, _, _, _, _, _, _, _, _, _, _, _, _, _, _, _, _, _, _, _, _, _, _, _, _, _, _, _, _, _, _, _, rfl, HC0, ⟨by omega⟩, ⟨by omega⟩, HS, Drawn0.refl _⟩)
  · cases h
end Go.Proofs.YteccaekalcjihaaGreatDoor.PTn
namespace Go.Proofs.YteccaekalcjihaaGreatDoor.PTn
open Go.RowKit Go.Proofs.YteccaekalcjihaaGreatDoorW.PrintWords Go.Proofs.YteccaekalcjihaaGreatDoorW.PrintLast Go.Proofs.YteccaekalcjihaaGreatDoorW.PrintMore
attribute [local go_sem] max2_int min2_int max_two min_two max_three min_three max_four min_four
set_option linter.unusedVariables false
set_option linter.unusedSimpArgs false
mutual
def search_Longest.j0 : Nat → ByteArray → ByteArray → Int → Int → Bool → Option (Int)
  | 0, _, _, _, _, _ => none
  | k + 1, x0, x1, x2, x3, x19 => if x19 = true then (some 0) else (search_Longest.l0 k x0 x1 x2 (mn x3 (wrap64 ((x1.size : Int) - x2))))
def search_Longest.l0 : Nat → ByteArray → ByteArray → Int → Int → Option (Int)
  | 0, _, _, _, _ => none
  | k + 1, x0, x1, x2, x9 => if x9 > 0 then (if 0 ≤ x2 then (if x2 ≤ (wrap64 (x2 + x9)) then (if (wrap64 (x2 + x9)) ≤ (x1.size : Int) then ((search_Line.f x0 (x1.extract (x2 : Int).toNat ((wrap64 (x2 + x9)) : Int).toNat)).bind fun bt140 => (if bt140.2 = true then (some x9) else (search_Longest.l0 k x0 x1 x2 (wrap64 (x9 - 1))))) else (none)) else (none)) else (none)) else (some 0)
end
def search_Longest.f (k : Nat) (a0 : ByteArray) (a1 : ByteArray) (a2 : Int) (a3 : Int) : Option (Int) := if a2 < 0 then (search_Longest.j0 k a0 a1 a2 a3 true) else (search_Longest.j0 k a0 a1 a2 a3 (decide (a2 > (a1.size : Int))))
set_option maxHeartbeats 8000000 in
set_option maxRecDepth 100000 in
theorem search_Longest.calls (k : Nat) (a0 : ByteArray) (a1 : ByteArray) (a2 : Int) (a3 : Int) (r : Int) (w : World) (h : search_Longest.f k a0 a1 a2 a3 = some r) :
    Calls Tryz.prog 163 #[.string a0, .string a1, .int .i64 a2, .int .i64 a3] w fun e w' => e = .returned (.int .i64 r) ∧ Below w.heap.size w w' := by
  have HB := Aside0.mk (Below.refl w.heap.size w)
  have H : (if a2 < 0 then (search_Longest.j0 k a0 a1 a2 a3 true) else (search_Longest.j0 k a0 a1 a2 a3 (decide (a2 > (a1.size : Int))))) = some r := h
  clear h
  have HC5 := Aside0.mk H
  clear H
  go_enter Tryz.func163, Tryz.ntmps163
  go_upto_region 1 with (fail)
  go_cut [19] (fun v19 wc => ∃ (kq : Nat) (x19_4 : Bool), v19 = .bool x19_4 ∧ Aside0 (search_Longest.j0 kq a0 a1 a2 a3 x19_4 = some r) ∧ Aside0 (kq ≤ k) ∧ Aside0 (Below w.heap.size w wc))
  case first =>
    have H := HC5.out
    clear HC5
    by_cases c6 : a2 < 0
    · rw [if_pos c6] at H
      have c6b0 : decide (a2 < 0) = true := decide_eq_true c6
      clear c6
      (first | rw [c6b0] | (simp only [i64_w, i32_w]; rw [c6b0]) | skip)
      have H' := Aside0.mk H
      clear H
      go_wp2
      go_meet
      case rel => exact ⟨_, (true), (by first | rfl | (simp; done) | (simp [*]; done)), H', ⟨by first | omega | exact Nat.le_refl _⟩, ⟨by with_reducible repeat first | exact HB.out | apply below_alloc | apply pw_below_drewN | apply below_drew1⟩⟩
    · rw [if_neg c6] at H
      have c6b0 : decide (a2 < 0) = false := decide_eq_false c6
      clear c6
      (first | rw [c6b0] | (simp only [i64_w, i32_w]; rw [c6b0]) | skip)
      have H' := Aside0.mk H
      clear H
      go_wp2
      go_meet
      case rel => exact ⟨_, (decide (a2 > (a1.size : Int))), (by first | rfl | (simp; done) | (simp [*]; done)), H', ⟨by first | omega | exact Nat.le_refl _⟩, ⟨by with_reducible repeat first | exact HB.out | apply below_alloc | apply pw_below_drewN | apply below_drew1⟩⟩
  case rest =>
    clear HC5
    try clear c1
    try clear p2
    try clear c6
    try clear c6b0
    obtain ⟨kq, x19_4, rfl, HA, HJ4, HB⟩ := hcut
    cases kq with
    | zero => exact absurd HA.out (by simp [search_Longest.j0])
    | succ kj4 =>
      have H := HA.out
      clear HA
      simp only [search_Longest.j0] at H
      by_cases c7 : x19_4 = true
      · subst c7
        rw [if_pos rfl] at H
        obtain rfl := Option.some.inj H
        go_wp2
        go_ret
        exact ⟨by first | rfl | (simp [*] <;> rfl), by with_reducible repeat first | exact HB.out | apply below_alloc | apply pw_below_drewN | apply below_drew1⟩
      · replace c7 := Bool.eq_false_iff.mpr c7
        subst c7
        rw [if_neg (show ¬ (false = true) by decide)] at H
        obtain ⟨ji8, hji8⟩ : ∃ j_ : Int, (mn a3 (wrap64 ((a1.size : Int) - a2))) = j_ := ⟨_, rfl⟩
        replace H : (search_Longest.l0 kj4 a0 a1 a2 ji8) = some r := by first | (rw [hji8] at H; exact H) | (simp only [hji8] at H ⊢; exact H)
        have hji8_ : (if (wrap64 ((a1.size : Int) - a2)) < a3 then (wrap64 ((a1.size : Int) - a2)) else a3) = ji8 := hji8
        have H' := Aside0.mk H
        clear H
        go_wp2
        go_loopg [9] kj4 (fun kq v9 w' => ∃ (x9_2 : Int), v9 = .int .i64 x9_2 ∧ Aside0 (search_Longest.l0 kq a0 a1 a2 x9_2 = some r) ∧ Aside0 (kq ≤ kj4) ∧ Aside0 (Below w.heap.size w w'))
        case atStart => exact ⟨(ji8), (by first | rfl | (simp; done) | (simp only [← hji8] <;> (first | rfl | simp)) | (simp [*]; done)), H', ⟨Nat.le_refl _⟩, ⟨by with_reducible repeat first | exact HB.out | apply below_alloc | apply pw_below_drewN | apply below_drew1⟩⟩
        case round =>
          clear H'
          try clear c1
          try clear p2
          try clear c6
          try clear c6b0
          try clear p6
          try clear c7
          try clear p2
          obtain ⟨x9_2, rfl, HA, HK2, HB⟩ := hrel
          cases gk with
          | zero => exact absurd HA.out (by simp [search_Longest.l0])
          | succ k2 =>
            have H := HA.out
            clear HA
            simp only [search_Longest.l0] at H
            by_cases c9 : x9_2 > 0
            · rw [if_pos c9] at H
              have c9b0 : decide (0 < x9_2) = true := decide_eq_true c9
              clear c9
              by_cases c10 : 0 ≤ a2
              · rw [if_pos c10] at H
                have c10b0 := eq_true c10
                have c10b1 : decide (0 ≤ a2) = true := decide_eq_true c10
                clear c10
                by_cases c11 : a2 ≤ (wrap64 (a2 + x9_2))
                · rw [if_pos c11] at H
                  have c11b0 := eq_true c11
                  have c11b1 : decide (a2 ≤ (wrap64 (a2 + x9_2))) = true := decide_eq_true c11
                  by_cases c12 : (wrap64 (a2 + x9_2)) ≤ (a1.size : Int)
                  · rw [if_pos c12] at H
                    have c12b0 := eq_true c12
                    have c12b1 : decide ((wrap64 (a2 + x9_2)) ≤ (a1.size : Int)) = true := decide_eq_true c12
                    replace H := Option.bind_eq_some_iff.mp H
                    obtain ⟨⟨t140, t141⟩, A130, H⟩ := H
                    (try dsimp only at H)
                    have A13 := Aside0.mk A130
                    clear A130
                    by_cases c14 : t141 = true
                    · subst c14
                      rw [if_pos rfl] at H
                      obtain rfl := Option.some.inj H
                      go_wp2_with (first | ((with_reducible refine gate_callee (f := 164) rfl ?_); refine goesL_ (some 38) rfl rfl Tryz.func164 (by kernel_rfl) rfl #[.string a0, .string (a1.extract (a2 : Int).toNat ((wrap64 (a2 + x9_2)) : Int).toNat)] rfl (by simp only [List.map_toArray, List.map_cons, List.map_nil] <;> rfl) ?_; (with_reducible refine (search_Line.calls a0 (a1.extract (a2 : Int).toNat ((wrap64 (a2 + x9_2)) : Int).toNat) t140 true _ A13.out).mono ?_); rintro e w' ⟨rfl, ⟨nd, rfl⟩⟩; refine ⟨_, rfl, ?_⟩))
                      go_ret
                      exact ⟨by first | rfl | (simp [errW_none, errW_some] <;> rfl) | (simp only [← hji8]; first | rfl | (simp [errW_none, errW_some] <;> rfl)) | (simp [*, errW_none, errW_some] <;> rfl), by with_reducible repeat first | exact HB.out | apply below_alloc | apply pw_below_drewN | apply below_drew1⟩
                    · replace c14 := Bool.eq_false_iff.mpr c14
                      subst c14
                      rw [if_neg (show ¬ (false = true) by decide)] at H
                      have H' := Aside0.mk H
                      clear H
                      go_wp2_with (first | ((with_reducible refine gate_callee (f := 164) rfl ?_); refine goesL_ (some 38) rfl rfl Tryz.func164 (by kernel_rfl) rfl #[.string a0, .string (a1.extract (a2 : Int).toNat ((wrap64 (a2 + x9_2)) : Int).toNat)] rfl (by simp only [List.map_toArray, List.map_cons, List.map_nil] <;> rfl) ?_; (with_reducible refine (search_Line.calls a0 (a1.extract (a2 : Int).toNat ((wrap64 (a2 + x9_2)) : Int).toNat) t140 false _ A13.out).mono ?_); rintro e w' ⟨rfl, ⟨nd, rfl⟩⟩; refine ⟨_, rfl, ?_⟩))
                      go_roundg k2
                      case measure => have := HJ4.out; have := HK2.out; omega
                      case rel => exact ⟨(wrap64 (x9_2 - 1)), (by first | rfl | (simp; done) | (simp [*]; done)), H', ⟨by have := HJ4.out; have := HK2.out; omega⟩, ⟨by with_reducible repeat first | exact HB.out | apply below_alloc | apply pw_below_drewN | apply below_drew1⟩⟩
                  · rw [if_neg c12] at H
                    exact absurd H (by simp)
                · rw [if_neg c11] at H
                  exact absurd H (by simp)
              · rw [if_neg c10] at H
                exact absurd H (by simp)
            · rw [if_neg c9] at H
              have c9b0 : decide (0 < x9_2) = false := decide_eq_false c9
              clear c9
              obtain rfl := Option.some.inj H
              go_wp2
              go_ret
              exact ⟨by first | rfl | (simp [errW_none, errW_some] <;> rfl) | (simp only [← hji8]; first | rfl | (simp [errW_none, errW_some] <;> rfl)) | (simp [*, errW_none, errW_some] <;> rfl), by with_reducible repeat first | exact HB.out | apply below_alloc | apply pw_below_drewN | apply below_drew1⟩
end Go.Proofs.YteccaekalcjihaaGreatDoor.PTn
set_option linter.unusedVariables false
namespace Go.Proofs.YteccaekalcjihaaGreatDoor.PTn
open Go.RowKit Go.Lib Go.Proofs.YteccaekalcjihaaGreatDoorW.PrintWords
structure GW (w : World) : Prop where
  m : ∃ m, w.cell? ⟨0, 0, none⟩ = some (.int .i64 m)
  e : ∃ t v, w.cell? ⟨3, 0, none⟩ = some (.iface t v)
theorem gw_lt {w : World} {b j : Nat} {v : Value} (h : w.cell? ⟨b, j, none⟩ = some v) : b < w.heap.size := by
  rcases Nat.lt_or_ge b w.heap.size with h1 | h1
  · exact h1
  · simp [World.cell?, Array.getElem?_eq_none h1] at h
theorem GW.at {w w' : World} (h : GW w) (hb : Below w.heap.size w w') : GW w' := by
  obtain ⟨⟨m, hm⟩, ⟨t, v, hv⟩⟩ := h
  exact ⟨⟨m, (hb.cell (p := ⟨_, 0, none⟩) (gw_lt hm)).trans hm⟩, ⟨t, v, (hb.cell (p := ⟨_, 0, none⟩) (gw_lt hv)).trans hv⟩⟩
end Go.Proofs.YteccaekalcjihaaGreatDoor.PTn
set_option linter.unusedVariables false
namespace Go.Proofs.YteccaekalcjihaaGreatDoor.PTn
open Go.RowKit Go.Lib Go.Proofs.YteccaekalcjihaaGreatDoor.Buf Go.Proofs.YteccaekalcjihaaGreatDoorW.PrintWords
set_option maxHeartbeats 2000000 in
set_option maxRecDepth 100000 in
theorem pu_none (w : World) : Calls Tryz.prog 210 #[.string ⟨#[]⟩, .int .i64 16, .int .i64 32] w fun e w' => e = .returned (.tuple #[.int .u64 0, .iface 215 (.int .i64 2)]) ∧ w' = w := by
  go_enter Tryz.func210, Tryz.ntmps210
  go_wp2
  go_ret2
  exact ⟨rfl, rfl⟩
set_option maxHeartbeats 4000000 in
set_option maxRecDepth 100000 in
theorem pu_3C (w : World) : Calls Tryz.prog 210 #[.string ⟨#[51, 67]⟩, .int .i64 16, .int .i64 32] w fun e w' => e = .returned (.tuple #[.int .u64 60, .nilIface]) ∧ Below w.heap.size w w' := by
  have hcv := Lib.run_convert_string_bytes (P := Tryz.prog) w 9 22 5 ⟨#[51, 67]⟩ Tryz.underlying9 Tryz.underlying22 Tryz.underlying5
  have HB0 := Aside0.mk (BR.conv w ⟨#[51, 67]⟩)
  have HW0 := Aside0.mk (conv_below w ⟨#[51, 67]⟩)
  obtain ⟨g1, _⟩ := HB0.out.get (i := 0) (by decide)
  obtain ⟨g2, _⟩ := HB0.out.get (i := 1) (by decide)
  have hz : (⟨#[51, 67]⟩ : ByteArray).size = 2 := rfl
  rw [hz] at hcv
  generalize grownCap w 2 0 5 = cap at hcv
  generalize bytesWorld w 5 ⟨#[51, 67]⟩ = W1 at hcv HB0 HW0 g1 g2
  replace g1 : W1.cell? ⟨w.heap.size, 0, none⟩ = some (.int .u8 51) := g1
  replace g2 : W1.cell? ⟨w.heap.size, 1, none⟩ = some (.int .u8 67) := g2
  clear hz
  go_enter Tryz.func210, Tryz.ntmps210
  go_wp2
  clear hcv
  refine wp_loop_rounds 3 ?_
  rw [rounds_succ]
  go_wp2
  rw [rounds_succ]
  go_wp2
  rw [rounds_succ]
  go_wp2
  go_ret2
  exact ⟨rfl, HW0.out⟩
set_option maxHeartbeats 2000000 in
set_option maxRecDepth 100000 in
theorem parse_3C (w : World) : Calls Tryz.prog 190 #[.string ⟨#[51, 67]⟩, .int .i64 16, .int .i64 32] w fun e w' => e = .returned (.tuple #[.int .u64 60, .nilIface]) ∧ Below w.heap.size w w' := by
  go_enter Tryz.func190, Tryz.ntmps190
  go_wp2_with (go_at_call 210; (with_reducible refine (pu_3C _).mono ?_); rintro e w1 ⟨rfl, hb⟩; have HB := Aside0.mk hb; clear hb)
  go_ret2
  exact ⟨rfl, HB.out⟩
set_option maxHeartbeats 2000000 in
set_option maxRecDepth 100000 in
theorem clone_none (w : World) : Calls Tryz.prog 233 #[.string ⟨#[]⟩] w fun e w' => e = .returned (.string ⟨#[]⟩) ∧ w' = w := by
  go_enter Tryz.func233, Tryz.ntmps233
  go_wp2
  go_ret
  exact ⟨rfl, rfl⟩
def SomePtr (e : Ending) : Prop := ∃ p, e = .returned (.pointer p)
def SomeErr (e : Ending) : Prop := ∃ t v, e = .returned (.iface t v)
def ZeroErr (e : Ending) : Prop := ∃ t v, e = .returned (.tuple #[.int .u64 0, .iface t v])
set_option maxHeartbeats 2000000 in
set_option maxRecDepth 100000 in
theorem syntax_at (w : World) (hG : GW w) : Calls Tryz.prog 224 #[.string ⟨#[80, 97, 114, 115, 101, 85, 105, 110, 116]⟩, .string ⟨#[]⟩] w fun e w' => SomePtr e ∧ Below w.heap.size w w' := by
  obtain ⟨tt, v, hv⟩ := hG.e
  have hv2 : w.drew.cell? ⟨3, 0, none⟩ = some (.iface tt v) := hv
  clear hG
  go_enter Tryz.func224, Tryz.ntmps224
  go_wp2
  go_region_with (go_at_call 233; (with_reducible refine (clone_none _).mono ?_); rintro e w1 ⟨rfl, rfl⟩)
  all_goals (go_wp2; go_ret; exact ⟨⟨_, rfl⟩, below_drew1 ((Below.refl _ _).alloc (Nat.le_refl _) _)⟩)
set_option maxHeartbeats 2000000 in
set_option maxRecDepth 100000 in
theorem toError_at (w : World) (hG : GW w) : Calls Tryz.prog 211 #[.string ⟨#[80, 97, 114, 115, 101, 85, 105, 110, 116]⟩, .string ⟨#[]⟩, .int .i64 16, .int .i64 32, .iface 215 (.int .i64 2)] w fun e w' => SomeErr e ∧ Below w.heap.size w w' := by
  have heq : ∀ w', (binOp .eql 47 (.iface 215 (.int .i64 2)) (.iface 215 (.int .i64 2))).run Tryz.prog w' = .ok (.bool true) w' := fun w' => by kernel_rfl
  go_enter Tryz.func211, Tryz.ntmps211
  go_wp2_with (go_at_call 224; (with_reducible refine (syntax_at _ hG).mono ?_); rintro e w1 ⟨⟨p, rfl⟩, hb⟩; have HB := Aside0.mk hb; clear hb)
  go_ret
  exact ⟨⟨_, _, rfl⟩, HB.out⟩
set_option maxHeartbeats 2000000 in
set_option maxRecDepth 100000 in
theorem parse_none (w : World) (hG : GW w) : Calls Tryz.prog 190 #[.string ⟨#[]⟩, .int .i64 16, .int .i64 32] w fun e w' => ZeroErr e ∧ Below w.heap.size w w' := by
  go_enter Tryz.func190, Tryz.ntmps190
  go_wp2_with (first | (go_at_call 210; (with_reducible refine (pu_none _).mono ?_); rintro e w1 ⟨rfl, rfl⟩) | (go_at_call 211; (with_reducible refine (toError_at _ hG).mono ?_); rintro e w2 ⟨⟨t, v, rfl⟩, hb⟩; have HB := Aside0.mk hb; clear hb))
  go_ret2
  exact ⟨⟨_, _, rfl⟩, HB.out⟩
end Go.Proofs.YteccaekalcjihaaGreatDoor.PTn
set_option linter.unusedVariables false
namespace Go.Proofs.YteccaekalcjihaaGreatDoor.PTn
open Go.RowKit Go.Lib Go.Proofs.YteccaekalcjihaaGreatDoor.Buf Go.Proofs.YteccaekalcjihaaGreatDoorW.PrintWords TopFl
set_option maxHeartbeats 2000000 in
set_option maxRecDepth 100000 in
theorem num_3C (w : World) : Calls Tryz.prog 165 #[.string ⟨#[51, 67]⟩] w fun e w' => e = .returned (.float .f64 (fw 60)) ∧ Below w.heap.size w w' := by
  have e1 : floatOfInt .f64 (60 : Int) = fw 60 := nearest_int 60 (by decide)
  go_enter Tryz.func165, Tryz.ntmps165
  go_wp2_with (go_at_call 190; (with_reducible refine (parse_3C _).mono ?_); rintro e w1 ⟨rfl, hb⟩; have HB := Aside0.mk hb; clear hb)
  go_ret
  exact ⟨rfl, HB.out⟩
set_option maxHeartbeats 2000000 in
set_option maxRecDepth 100000 in
theorem num_none (w : World) (hG : GW w) : Calls Tryz.prog 165 #[.string ⟨#[]⟩] w fun e w' => e = .returned (.float .f64 0) ∧ Below w.heap.size w w' := by
  go_enter Tryz.func165, Tryz.ntmps165
  go_wp2_with (go_at_call 190; (with_reducible refine (parse_none _ hG).mono ?_); rintro e w1 ⟨⟨t, v, rfl⟩, hb⟩; have HB := Aside0.mk hb; clear hb)
  go_ret
  exact ⟨rfl, HB.out⟩
set_option maxHeartbeats 2000000 in
set_option maxRecDepth 100000 in
theorem text_60 (w : World) : Calls Tryz.prog 123 #[.complex .f64 (fw 60) 0] w fun e w' => e = .returned (.string ⟨#[60]⟩) ∧ Below w.heap.size w w' := by
  have e3 : floatToIntVal .f64 (fw 60) .i64 = some (60 : Int) := to_int_fw 60 (by decide)
  have e4 := fun w' => run_convert_float_int (P := Tryz.prog) w' 156 3 .f64 .i64 (fw 60) 60 (by kernel_rfl) (by kernel_rfl) e3
  have hs := Aside0.mk (show utf_Sign.f 60 = some ⟨#[60]⟩ by rfl)
  clear e3
  go_enter Tryz.func123, Tryz.ntmps123
  go_wp2_with (go_at_call 168; (with_reducible refine (utf_Sign.calls 60 _ _ hs.out).mono ?_); rintro e w2 ⟨rfl, ⟨nd, rfl⟩⟩)
  go_ret
  exact ⟨rfl, pw_below_drewN (Below.refl _ _) nd⟩
noncomputable def namesT : ByteArray := match Tryz.f119.body with
  | some (.seq _ (.seq (.region _ ⟨_ :: _ :: ⟨_, .call ⟨_, ⟨Operand.const (Value.string s) :: _⟩, _⟩, _, _, _, _⟩ :: _⟩ _) _)) => s
  | _ => .empty
theorem names_eq (a b : List UInt8) (h : (⟨(a.append b).toArray⟩ : ByteArray) = namesT) : (⟨(a.append b).toArray⟩ : ByteArray) = namesT := h
set_option maxHeartbeats 2000000 in
set_option maxRecDepth 100000 in
theorem value_miss (name r : ByteArray) (w : World) (h : search_Line.f namesT name = some (r, false)) : Calls Tryz.prog 120 #[.string name] w fun e w' => e = .returned (.tuple #[.complex .f64 0 0, .bool false]) ∧ Below w.heap.size w w' := by
  have H := Aside0.mk h
  clear h
  go_enter Tryz.func120, Tryz.ntmps120
  rw [names_eq _ _ ?hn]
  case hn => rfl
  generalize namesT = T at H ⊢
  go_wp2_with (go_at_call 164; (with_reducible refine (search_Line.calls T name r false _ H.out).mono ?_); rintro e w2 ⟨rfl, ⟨nd, rfl⟩⟩)
  go_ret2
  exact ⟨rfl, pw_below_drewN (Below.refl _ _) nd⟩
set_option maxHeartbeats 2000000 in
set_option maxRecDepth 100000 in
theorem value_hit (name : ByteArray) (w : World) (hG : GW w) (h : search_Line.f namesT name = some (⟨#[51, 67]⟩, true)) : Calls Tryz.prog 120 #[.string name] w fun e w' => e = .returned (.tuple #[.complex .f64 (fw 60) 0, .bool true]) ∧ Below w.heap.size w w' := by
  have H := Aside0.mk h
  have HC := Aside0.mk (show strings_Cut.f ⟨#[51, 67]⟩ ⟨#[32]⟩ = some (⟨#[51, 67]⟩, ⟨#[]⟩, false) by decide +kernel)
  clear h
  go_enter Tryz.func120, Tryz.ntmps120
  rw [names_eq _ _ ?hn]
  case hn => rfl
  generalize namesT = T at H ⊢
  go_wp2_with (first | (go_at_call 164; (with_reducible refine (search_Line.calls T name ⟨#[51, 67]⟩ true _ H.out).mono ?_); rintro e w2 ⟨rfl, ⟨nd, rfl⟩⟩) | (go_at_call 130; (with_reducible refine (strings_Cut.calls ⟨#[51, 67]⟩ ⟨#[32]⟩ ⟨#[51, 67]⟩ ⟨#[]⟩ false _ HC.out).mono ?_); rintro e w3 ⟨rfl, ⟨nd2, rfl⟩⟩) | (go_at_call 165; (with_reducible refine (num_3C _).mono ?_); rintro e w4 ⟨rfl, hb⟩; have HB := Aside0.mk (below_step (w := w) (by repeat (first | apply pw_below_drewN | exact Below.refl _ _)) hb); clear hb) | (go_at_call 165; (with_reducible refine (num_none _ (hG.at HB.out)).mono ?_); rintro e w5 ⟨rfl, hb⟩; have HB2 := Aside0.mk (below_step HB.out hb); clear hb))
  go_ret2
  exact ⟨rfl, HB2.out⟩
set_option maxHeartbeats 2000000 in
set_option maxRecDepth 100000 in
theorem longest_at (k : Nat) (s : ByteArray) (i : Int) (r : Int) (w : World) (h : search_Longest.f k namesT s i 32 = some r) : Calls Tryz.prog 119 #[.string s, .int .i64 i] w fun e w' => e = .returned (.int .i64 r) ∧ Below w.heap.size w w' := by
  have H := Aside0.mk h
  clear h
  go_enter Tryz.func119, Tryz.ntmps119
  rw [names_eq _ _ ?hn]
  case hn => rfl
  generalize namesT = T at H ⊢
  go_wp2_with (go_at_call 163; (with_reducible refine (search_Longest.calls k T s i 32 r _ H.out).mono ?_); rintro e w2 ⟨rfl, hb⟩; have HB := Aside0.mk hb; clear hb)
  go_ret
  exact ⟨rfl, HB.out⟩
end Go.Proofs.YteccaekalcjihaaGreatDoor.PTn
set_option linter.unusedVariables false
namespace Go.Proofs.YteccaekalcjihaaGreatDoor.PTn
open Go.RowKit Go.Lib Go.Proofs.YteccaekalcjihaaGreatDoor.Buf Go.Proofs.YteccaekalcjihaaGreatDoorW.PrintWords TopFl
noncomputable def nameRead (s : ByteArray) (i n : Int) : Option (ByteArray × Int) :=
  if 0 ≤ n ∧ i + 1 + n ≤ s.size then (search_Line.f namesT (s.extract (i + 1).toNat (i + 1 + n).toNat)).bind fun y =>
    if y.2 = true then (if y.1.data.toList = [51, 67] then some (⟨#[60]⟩, i + 1 + n) else none) else some (s.extract i.toNat (i + 1 + n).toNat, i + 1 + n)
  else none
noncomputable def ref_Read.f (s : ByteArray) (i : Int) (attr : Bool) : Option (ByteArray × Int) :=
  if 0 ≤ i ∧ i < 1000000000 ∧ s.size ≤ 1000000000 ∧ sign_Begins.f s i ⟨#[38]⟩ = some true then
    (number_Read.f (s.size + 8) s (i + 1)).bind fun x => if x.2.2 = true then some (x.1, x.2.1) else
      if attr = true then none else (search_Longest.f 40 namesT s (i + 1) 32).bind fun n => nameRead s i n
  else none
set_option maxHeartbeats 4000000 in
set_option maxRecDepth 100000 in
theorem read_number (s : ByteArray) (i : Int) (attr : Bool) (r1 : ByteArray) (r2 : Int) (w : World) (h0 : 0 ≤ i) (h1 : i < 1000000000) (hb : Aside0 (sign_Begins.f s i ⟨#[38]⟩ = some true)) (hn : Aside0 (number_Read.f (s.size + 8) s (i + 1) = some (r1, r2, true))) :
    Calls Tryz.prog 66 #[.string s, .int .i64 i, .bool attr] w fun e w' => e = .returned (.tuple #[.string r1, .int .i64 r2]) ∧ Below w.heap.size w w' := by
  go_enter Tryz.func66, Tryz.ntmps66
  go_wp2_with (first | (go_at_call 58; (with_reducible refine (sign_Begins.calls s i ⟨#[38]⟩ true _ hb.out).mono ?_); rintro e w1 ⟨rfl, hb⟩; have HB := Aside0.mk hb; clear hb) | (go_at_call 118; (with_reducible refine (number_Read.calls (s.size + 8) s (i + 1) r1 r2 true _ hn.out).mono ?_); rintro e w2 ⟨rfl, hb⟩; have HB2 := Aside0.mk (below_step HB.out hb); clear hb))
  go_ret2
  exact ⟨rfl, HB2.out⟩
set_option maxHeartbeats 4000000 in
set_option maxRecDepth 100000 in
theorem read_hit (s : ByteArray) (i n : Int) (t1 : ByteArray) (t2 : Int) (w : World) (hG : GW w) (h0 : 0 ≤ i) (h1 : i < 1000000000) (h2 : 0 ≤ n) (h3 : i + 1 + n ≤ (s.size : Int)) (h4 : (s.size : Int) ≤ 1000000000) (hb : Aside0 (sign_Begins.f s i ⟨#[38]⟩ = some true)) (hn : Aside0 (number_Read.f (s.size + 8) s (i + 1) = some (t1, t2, false)))
    (hl : Aside0 (search_Longest.f 40 namesT s (i + 1) 32 = some n)) (hv : Aside0 (search_Line.f namesT (s.extract (i + 1).toNat (i + 1 + n).toNat) = some (⟨#[51, 67]⟩, true))) :
    Calls Tryz.prog 66 #[.string s, .int .i64 i, .bool false] w fun e w' => e = .returned (.tuple #[.string ⟨#[60]⟩, .int .i64 (i + 1 + n)]) ∧ Below w.heap.size w w' := by
  have a1 : i + 1 ≤ i + 1 + n := by omega
  have a2 : 0 ≤ i + 1 := by omega
  go_enter Tryz.func66, Tryz.ntmps66
  go_wp2_with (first | (go_at_call 58; (with_reducible refine (sign_Begins.calls s i ⟨#[38]⟩ true _ hb.out).mono ?_); rintro e w1 ⟨rfl, hb⟩; have HB := Aside0.mk hb; clear hb) | (go_at_call 118; (with_reducible refine (number_Read.calls (s.size + 8) s (i + 1) t1 t2 false _ hn.out).mono ?_); rintro e w2 ⟨rfl, hb⟩; have HB2 := Aside0.mk (below_step HB.out hb); clear hb) | (go_at_call 119; (with_reducible refine (longest_at 40 s (i + 1) n _ hl.out).mono ?_); rintro e w3 ⟨rfl, hb⟩; have HB3 := Aside0.mk (below_step HB2.out hb); clear hb) | (go_at_call 120; (with_reducible refine (value_hit _ _ (hG.at HB3.out) hv.out).mono ?_); rintro e w4 ⟨rfl, hb⟩; have HB4 := Aside0.mk (below_step HB3.out hb); clear hb) | (go_at_call 123; (with_reducible refine (text_60 _).mono ?_); rintro e w5 ⟨rfl, hb⟩; have HB5 := Aside0.mk (below_step HB4.out hb); clear hb))
  go_ret2
  exact ⟨rfl, HB5.out⟩
set_option maxHeartbeats 4000000 in
set_option maxRecDepth 100000 in
theorem read_miss (s : ByteArray) (i n : Int) (t1 t3 : ByteArray) (t2 : Int) (w : World) (h0 : 0 ≤ i) (h1 : i < 1000000000) (h2 : 0 ≤ n) (h3 : i + 1 + n ≤ (s.size : Int)) (h4 : (s.size : Int) ≤ 1000000000) (hb : Aside0 (sign_Begins.f s i ⟨#[38]⟩ = some true)) (hn : Aside0 (number_Read.f (s.size + 8) s (i + 1) = some (t1, t2, false)))
    (hl : Aside0 (search_Longest.f 40 namesT s (i + 1) 32 = some n)) (hv : Aside0 (search_Line.f namesT (s.extract (i + 1).toNat (i + 1 + n).toNat) = some (t3, false))) :
    Calls Tryz.prog 66 #[.string s, .int .i64 i, .bool false] w fun e w' => e = .returned (.tuple #[.string (s.extract i.toNat (i + 1 + n).toNat), .int .i64 (i + 1 + n)]) ∧ Below w.heap.size w w' := by
  have a1 : i + 1 ≤ i + 1 + n := by omega
  have a2 : 0 ≤ i + 1 := by omega
  have a3 : i ≤ i + 1 + n := by omega
  go_enter Tryz.func66, Tryz.ntmps66
  go_wp2_with (first | (go_at_call 58; (with_reducible refine (sign_Begins.calls s i ⟨#[38]⟩ true _ hb.out).mono ?_); rintro e w1 ⟨rfl, hb⟩; have HB := Aside0.mk hb; clear hb) | (go_at_call 118; (with_reducible refine (number_Read.calls (s.size + 8) s (i + 1) t1 t2 false _ hn.out).mono ?_); rintro e w2 ⟨rfl, hb⟩; have HB2 := Aside0.mk (below_step HB.out hb); clear hb) | (go_at_call 119; (with_reducible refine (longest_at 40 s (i + 1) n _ hl.out).mono ?_); rintro e w3 ⟨rfl, hb⟩; have HB3 := Aside0.mk (below_step HB2.out hb); clear hb) | (go_at_call 120; (with_reducible refine (value_miss _ _ _ hv.out).mono ?_); rintro e w4 ⟨rfl, hb⟩; have HB4 := Aside0.mk (below_step HB3.out hb); clear hb))
  go_ret2
  exact ⟨rfl, HB4.out⟩
theorem two_bytes {y : ByteArray} (h : y.data.toList = [51, 67]) : y = ⟨#[51, 67]⟩ := by
  obtain ⟨d⟩ := y
  congr 1
  exact Array.toList_inj.1 h
set_option maxRecDepth 100000 in
theorem ref_Read.calls (s : ByteArray) (i : Int) (attr : Bool) (r1 : ByteArray) (r2 : Int) (w : World) (hG : GW w) (h : ref_Read.f s i attr = some (r1, r2)) :
    Calls Tryz.prog 66 #[.string s, .int .i64 i, .bool attr] w fun e w' => e = .returned (.tuple #[.string r1, .int .i64 r2]) ∧ Below w.heap.size w w' := by
  unfold ref_Read.f at h
  split at h
  · rename_i hc
    obtain ⟨h0, h1, h2, hb⟩ := hc
    obtain ⟨⟨t1, t2, ok⟩, hn, h⟩ := Option.bind_eq_some_iff.1 h
    cases ok with
    | true =>
      obtain ⟨rfl, rfl⟩ := Prod.mk.inj (Option.some.inj h)
      exact read_number s i attr _ _ w h0 h1 ⟨hb⟩ ⟨hn⟩
    | false =>
      cases attr with
      | true => cases h
      | false =>
        obtain ⟨n, hl, h⟩ := Option.bind_eq_some_iff.1 h
        unfold nameRead at h
        by_cases hr : 0 ≤ n ∧ i + 1 + n ≤ (s.size : Int)
        · rw [if_pos hr] at h
          obtain ⟨⟨y1, y2⟩, hv, h⟩ := Option.bind_eq_some_iff.1 h
          cases y2 with
          | true =>
            by_cases hy : y1.data.toList = [51, 67]
            · rw [if_pos rfl, if_pos hy] at h
              obtain ⟨rfl, rfl⟩ := Prod.mk.inj (Option.some.inj h)
              have hy1 := two_bytes hy
              subst hy1
              exact read_hit s i n t1 t2 w hG h0 h1 hr.1 hr.2 (by omega) ⟨hb⟩ ⟨hn⟩ ⟨hl⟩ ⟨hv⟩
            · rw [if_pos rfl, if_neg hy] at h
              cases h
          | false =>
            rw [if_neg Bool.false_ne_true] at h
            obtain ⟨rfl, rfl⟩ := Prod.mk.inj (Option.some.inj h)
            exact read_miss s i n t1 y1 t2 w h0 h1 hr.1 hr.2 (by omega) ⟨hb⟩ ⟨hn⟩ ⟨hl⟩ ⟨hv⟩
        · rw [if_neg hr] at h
          cases h
  · cases h
end Go.Proofs.YteccaekalcjihaaGreatDoor.PTn
set_option linter.unusedVariables false
namespace Go.Proofs.YteccaekalcjihaaGreatDoor.PTn
open Go.RowKit Go.Lib Go.Proofs.YteccaekalcjihaaGreatDoor.Buf Go.Proofs.YteccaekalcjihaaGreatDoorW.PrintWords
noncomputable def rdGo (s : ByteArray) (attr : Bool) : Nat → Nat → List UInt8 → Option (List UInt8)
  | 0, _, _ => none
  | k + 1, i, out => if i ≤ s.size ∧ out.length ≤ 1000000000 then (strings_IndexByte.f (s.extract i s.size) 38).bind fun n =>
      if n < 0 then some (out ++ (s.extract i s.size).data.toList)
      else if i + n.toNat ≤ s.size then (ref_Read.f s ((i + n.toNat : Nat) : Int) attr).bind fun x => if 0 ≤ x.2 ∧ x.2 ≤ s.size ∧ x.1.size ≤ 1000000000 then rdGo s attr k x.2.toNat (out ++ (s.extract i (i + n.toNat)).data.toList ++ x.1.data.toList) else none
      else none
    else none
noncomputable def ref_Decode.f (s : ByteArray) (attr : Bool) : Option ByteArray := if s.size ≤ 1000000000 then (rdGo s attr (s.size + 1) 0 []).map fun l => ⟨l.toArray⟩ else none
theorem bytes_len (s : ByteArray) : s.data.toList.length = s.size := by rw [Array.length_toList]; rfl
theorem Holds.below {w w1 : World} {out : List UInt8} (h : Holds w w1 out) : Below w.heap.size w w1 := by
  obtain ⟨cs, v, _, _, _, _, _, hb⟩ := h
  exact hb
theorem rdGo_step {s : ByteArray} {attr : Bool} {k i : Nat} {out r : List UInt8} (h : rdGo s attr (k + 1) i out = some r) : i ≤ s.size ∧ out.length ≤ 1000000000 ∧ ((∃ n : Int, strings_IndexByte.f (s.extract i s.size) 38 = some n ∧ n < 0 ∧ r = out ++ (s.extract i s.size).data.toList) ∨
    (∃ (n : Nat) (t : ByteArray) (j : Nat), strings_IndexByte.f (s.extract i s.size) 38 = some (n : Int) ∧ i + n ≤ s.size ∧ ref_Read.f s ((i + n : Nat) : Int) attr = some (t, (j : Int)) ∧ j ≤ s.size ∧ t.size ≤ 1000000000 ∧ rdGo s attr k j (out ++ (s.extract i (i + n)).data.toList ++ t.data.toList) = some r)) := by
  simp only [rdGo] at h
  by_cases hc : i ≤ s.size ∧ out.length ≤ 1000000000
  · rw [if_pos hc] at h
    refine ⟨hc.1, hc.2, ?_⟩
    obtain ⟨n, hn, h⟩ := Option.bind_eq_some_iff.1 h
    by_cases h0 : n < 0
    · rw [if_pos h0] at h
      exact .inl ⟨n, hn, h0, (Option.some.inj h).symm⟩
    · rw [if_neg h0] at h
      obtain ⟨m, rfl⟩ : ∃ m : Nat, n = (m : Int) := ⟨n.toNat, by omega⟩
      simp only [Int.toNat_natCast] at h
      by_cases h1 : i + m ≤ s.size
      · rw [if_pos h1] at h
        obtain ⟨⟨t, j⟩, ht, h⟩ := Option.bind_eq_some_iff.1 h
        dsimp only at h
        by_cases h2 : 0 ≤ j ∧ j ≤ (s.size : Int) ∧ t.size ≤ 1000000000
        · rw [if_pos h2] at h
          obtain ⟨q, rfl⟩ : ∃ q : Nat, j = (q : Int) := ⟨j.toNat, by omega⟩
          exact .inr ⟨m, t, q, hn, h1, ht, by omega, h2.2.2, by simpa using h⟩
        · rw [if_neg h2] at h
          cases h
      · rw [if_neg h1] at h
        cases h
  · rw [if_neg hc] at h
    cases h
set_option maxHeartbeats 4000000 in
set_option maxRecDepth 100000 in
theorem ref_Decode.calls (s : ByteArray) (attr : Bool) (r : ByteArray) (w : World) (hG : GW w) (h : ref_Decode.f s attr = some r) :
    Calls Tryz.prog 21 #[.string s, .bool attr] w fun e w' => e = .returned (.string r) ∧ Below w.heap.size w w' := by
  unfold ref_Decode.f at h
  by_cases hs : s.size ≤ 1000000000
  · rw [if_pos hs] at h
    obtain ⟨R, hR, hr⟩ := Option.map_eq_some_iff.1 h
    have HR := Aside0.mk hr
    have H0 := Aside0.mk hR
    have HS := Aside0.mk hs
    have HH0 := Aside0.mk (Holds.fresh w)
    clear h hR hr hs
    go_enter Tryz.func21, Tryz.ntmps21
    go_wp2
    refine wp_scope_ghost 0 (fun kq a' w' => ∃ (i : Nat) (out : List UInt8) (u7 u8 u9 u10 u11 u12 u13 u14 u15 u16 u17 u18 u19 u20 u21 u22 u23 u24 u25 u26 u27 u28 u29 u30 u31 u32 u33 u34 u35 u36 u37 : Value), a' = { tmps := #[.string s, .bool attr, undef, undef, .string ⟨#[]⟩, .pointer (some ⟨w.heap.size, 0, none⟩), .int .i64 i, u7, u8, u9, u10, u11, u12, u13, u14, u15, u16, u17, u18, u19, u20, u21, u22, u23, u24, u25, u26, u27, u28, u29, u30, u31, u32, u33, u34, u35, u36, u37], defers := [] } ∧ Aside0 (Holds w w' out) ∧ Aside0 (rdGo s attr kq i out = some R)) rfl ?_ ?_
    · intro kq a' w' hI J K hJ hK
      obtain ⟨i, out, u7, u8, u9, u10, u11, u12, u13, u14, u15, u16, u17, u18, u19, u20, u21, u22, u23, u24, u25, u26, u27, u28, u29, u30, u31, u32, u33, u34, u35, u36, u37, rfl, HH, HN⟩ := hI
      clear HH0 H0
      cases kq with
      | zero => exact absurd HN.out (by simp [rdGo])
      | succ k1 =>
        obtain ⟨q1, q2, hcase⟩ := rdGo_step HN.out
        have Q2 := Aside0.mk q2
        clear HN q2
        have i1 : (i : Int) ≤ (s.size : Int) := by omega
        have i2 : (s.size : Int) ≤ 1000000000 := by have := HS.out; omega
        rcases hcase with ⟨n, hn, h0, he⟩ | ⟨n, t, j, hn, h1, ht, h2, h3, hnext⟩
        · have HN := Aside0.mk hn
          have HE := Aside0.mk he
          have c1 : decide (n < 0) = true := decide_eq_true h0
          have HX := Aside0.mk (show (s.extract i s.size).size ≤ 1000000000 by have := HS.out; rw [ByteArray.size_extract]; omega)
          clear hn he h0 q1
          go_wp2_with (first | (go_at_call 65; (with_reducible refine (strings_IndexByte.calls _ _ n _ HN.out).mono ?_); rintro e w1 ⟨rfl, ⟨nd, rfl⟩⟩; have HH1 := Aside0.mk (Holds.kept HH.out (pw_below_drewN (Below.refl _ _) nd)); clear HH) | (go_at_call 26; (with_reducible refine (Holds.write HH1.out (s.extract i s.size) (by have := Q2.out; have := HX.out; omega)).mono ?_); rintro e w2 ⟨rfl, hb⟩; have HH2 := Aside0.mk hb; clear hb HH1) | (go_at_call 22; (with_reducible refine (Holds.done HH2.out).mono ?_); rintro e w3 ⟨rfl, hb⟩; have HB1 := Aside0.mk hb; clear hb))
          rw [Exit.jump_ret]
          go_ret
          exact ⟨by rw [← HR.out, HE.out, Lib.extract_data]; rfl, HB1.out⟩
        · have HN := Aside0.mk hn
          rw [Int.natCast_add] at ht
          have HT := Aside0.mk ht
          have hz : ((i : Int) + (n : Int)).toNat = i + n := by omega
          have HX := Aside0.mk (show (s.extract i (i + n)).size ≤ 1000000000 by have := HS.out; rw [ByteArray.size_extract]; omega)
          have H3 := Aside0.mk h3
          have HNX := Aside0.mk hnext
          have c1 : decide ((n : Int) < 0) = false := decide_eq_false (by omega)
          have i3 : (i : Int) + (n : Int) ≤ (s.size : Int) := by omega
          have i4 : (i : Int) ≤ (i : Int) + (n : Int) := by omega
          clear hn ht h1 h2 h3 hnext q1
          go_wp2_with (first | (go_at_call 65; (with_reducible refine (strings_IndexByte.calls _ _ (n : Int) _ HN.out).mono ?_); rintro e w1 ⟨rfl, ⟨nd, rfl⟩⟩; have HH1 := Aside0.mk (Holds.kept HH.out (pw_below_drewN (Below.refl _ _) nd)); clear HH) | (go_at_call 26; (with_reducible refine (Holds.write HH1.out (s.extract i (i + n)) (by have := Q2.out; have := HX.out; omega)).mono ?_); rintro e w2 ⟨rfl, hb⟩; have HH2 := Aside0.mk hb; clear hb HH1) | (go_at_call 66; (with_reducible refine (ref_Read.calls s _ attr t (j : Int) _ (hG.at (Holds.below HH2.out)) HT.out).mono ?_); rintro e w3 ⟨rfl, hb⟩; have HH3 := Aside0.mk (Holds.kept HH2.out hb); clear hb HH2) | (go_at_call 26; (with_reducible refine (Holds.write HH3.out t (by have h1 := Q2.out; have h2 := HX.out; have h3 := H3.out; have h4 := bytes_len (s.extract i (i + n)); rw [List.length_append, h4]; omega)).mono ?_); rintro e w4 ⟨rfl, hb⟩; have HH4 := Aside0.mk hb; clear hb HH3))
          go_step3
          exact ⟨rfl, hK _ _ (Handed.intro k1 (by omega) (hJ _ _ _ ⟨j, _, _, _, _, _, _, _, _, _, _, _, _, _, _, _, _, _, _, _, _, _, _, _, _, _, _, _, _, _, _, _, _, rfl, HH4, HNX⟩))⟩
    · intro hat
      go_wp2
      go_step3
      rename_i hh
      exact hh _ _ (hat.go (s.size + 1) _ _ ⟨0, [], _, _, _, _, _, _, _, _, _, _, _, _, _, _, _, _, _, _, _, _, _, _, _, _, _, _, _, _, _, _, _, rfl, HH0, H0⟩)
  · rw [if_neg hs] at h
    cases h
end Go.Proofs.YteccaekalcjihaaGreatDoor.PTn
namespace Go.Proofs.YteccaekalcjihaaGreatDoor.PTn
open Go.RowKit Go.Proofs.YteccaekalcjihaaGreatDoorW.PrintWords Go.Proofs.YteccaekalcjihaaGreatDoorW.PrintLast Go.Proofs.YteccaekalcjihaaGreatDoorW.PrintMore
attribute [local go_sem] max2_int min2_int max_two min_two max_three min_three max_four min_four
set_option linter.unusedVariables false
set_option linter.unusedSimpArgs false
noncomputable def text_Read.f (k : Nat) (a0 : ByteArray) (a1 : Int) : Option (ByteArray × Int) := (text_Next.f k a0 a1).bind fun t146 => ((text_inside.f a0 a1).bind fun t147 => (if 0 ≤ t147 then (if t147 ≤ t146 then (if t146 ≤ (a0.size : Int) then ((ref_Decode.f (a0.extract (t147 : Int).toNat (t146 : Int).toNat) false).bind fun t148 => (some (t148, t146))) else (none)) else (none)) else (none)))
set_option maxHeartbeats 8000000 in
set_option maxRecDepth 100000 in
theorem text_Read.calls (k : Nat) (a0 : ByteArray) (a1 : Int) (r1 : ByteArray) (r2 : Int) (w : World) (hG : GW w) (h : text_Read.f k a0 a1 = some (r1, r2)) :
    Calls Tryz.prog 78 #[.string a0, .int .i64 a1] w fun e w' => e = .returned (.tuple #[.string r1, .int .i64 r2]) ∧ Below w.heap.size w w' := by
  have HB := Aside0.mk (Below.refl w.heap.size w)
  have H : ((text_Next.f k a0 a1).bind fun t146 => ((text_inside.f a0 a1).bind fun t147 => (if 0 ≤ t147 then (if t147 ≤ t146 then (if t146 ≤ (a0.size : Int) then ((ref_Decode.f (a0.extract (t147 : Int).toNat (t146 : Int).toNat) false).bind fun t148 => (some (t148, t146))) else (none)) else (none)) else (none)))) = some (r1, r2) := h
  clear h
  replace H := Option.bind_eq_some_iff.mp H
  obtain ⟨t146, A30, H⟩ := H
  (try dsimp only at H)
  have A3 := Aside0.mk A30
  clear A30
  replace H := Option.bind_eq_some_iff.mp H
  obtain ⟨t147, A40, H⟩ := H
  (try dsimp only at H)
  have A4 := Aside0.mk A40
  clear A40
  by_cases c5 : 0 ≤ t147
  · rw [if_pos c5] at H
    have c5b0 := eq_true c5
    have c5b1 : decide (0 ≤ t147) = true := decide_eq_true c5
    clear c5
    by_cases c6 : t147 ≤ t146
    · rw [if_pos c6] at H
      have c6b0 := eq_true c6
      have c6b1 : decide (t147 ≤ t146) = true := decide_eq_true c6
      clear c6
      by_cases c7 : t146 ≤ (a0.size : Int)
      · rw [if_pos c7] at H
        have c7b0 := eq_true c7
        have c7b1 : decide (t146 ≤ (a0.size : Int)) = true := decide_eq_true c7
        clear c7
        replace H := Option.bind_eq_some_iff.mp H
        obtain ⟨t148, A80, H⟩ := H
        (try dsimp only at H)
        have A8 := Aside0.mk A80
        clear A80
        simp only [Option.some.injEq, Prod.mk.injEq] at H
        obtain ⟨rfl, rfl⟩ := H
        go_enter Tryz.func78, Tryz.ntmps78
        go_wp2_with (first | ((with_reducible refine gate_callee (f := 131) rfl ?_); refine goesL_ (some 8) rfl rfl Tryz.func131 (by kernel_rfl) rfl #[.string a0, .int .i64 a1] rfl (by simp only [List.map_toArray, List.map_cons, List.map_nil] <;> rfl) ?_; (with_reducible refine (text_Next.calls k a0 a1 t146 _ A3.out).mono ?_); rintro e w9 ⟨rfl, hb⟩; refine ⟨_, rfl, ?_⟩; have n0_ := Aside0.mk (below_step (by with_reducible repeat first | exact HB.out | apply below_alloc | apply pw_below_drewN | apply below_drew1) hb); clear HB; have HB := n0_; clear n0_; (try clear hb); (try clear hb2); (try clear hk); (try clear hi)) | ((with_reducible refine gate_callee (f := 132) rfl ?_); refine goesL_ (some 12) rfl rfl Tryz.func132 (by kernel_rfl) rfl #[.string a0, .int .i64 a1] rfl (by simp only [List.map_toArray, List.map_cons, List.map_nil] <;> rfl) ?_; (with_reducible refine (text_inside.calls a0 a1 t147 _ A4.out).mono ?_); rintro e w10 ⟨rfl, hb⟩; refine ⟨_, rfl, ?_⟩; have n0_ := Aside0.mk (below_step (by with_reducible repeat first | exact HB.out | apply below_alloc | apply pw_below_drewN | apply below_drew1) hb); clear HB; have HB := n0_; clear n0_; (try clear hb); (try clear hb2); (try clear hk); (try clear hi)) | ((with_reducible refine gate_callee (f := 21) rfl ?_); refine goesL_ (some 15) rfl rfl Tryz.func21 (by kernel_rfl) rfl #[.string (a0.extract (t147 : Int).toNat (t146 : Int).toNat), .bool false] rfl (by simp only [List.map_toArray, List.map_cons, List.map_nil] <;> rfl) ?_; (with_reducible refine (ref_Decode.calls (a0.extract (t147 : Int).toNat (t146 : Int).toNat) false t148 _ ?gw A8.out).mono ?_); (case gw => exact hG.at (by with_reducible repeat first | exact HB.out | apply below_alloc | apply pw_below_drewN | apply below_drew1)); rintro e w11 ⟨rfl, hb⟩; refine ⟨_, rfl, ?_⟩; have n0_ := Aside0.mk (below_step (by with_reducible repeat first | exact HB.out | apply below_alloc | apply pw_below_drewN | apply below_drew1) hb); clear HB; have HB := n0_; clear n0_; (try clear hb); (try clear hb2); (try clear hk); (try clear hi)))
        go_ret2
        exact ⟨by first | rfl | (simp [*] <;> rfl), by with_reducible repeat first | exact HB.out | apply below_alloc | apply pw_below_drewN | apply below_drew1⟩
      · rw [if_neg c7] at H
        exact absurd H (by simp)
    · rw [if_neg c6] at H
      exact absurd H (by simp)
  · rw [if_neg c5] at H
    exact absurd H (by simp)
end Go.Proofs.YteccaekalcjihaaGreatDoor.PTn
set_option linter.unusedVariables false
namespace Go.Proofs.YteccaekalcjihaaGreatDoor.PTn
open Go.RowKit Go.Lib Go.Proofs.YteccaekalcjihaaGreatDoorW.PrintWords Go.Proofs.YteccaekalcjihaaGreatDoorW.PrintLast Go.Proofs.YteccaekalcjihaaGreatDoorW.PrintMore
def comment_Read.f (s : ByteArray) (i : Int) : Option (Int × ByteArray × ByteArray × (List S38) × Bool × Int × Bool) := none
theorem comment_Read.calls (a0 : ByteArray) (a1 : Int) (r1 : Int) (r2 : ByteArray) (r3 : ByteArray) (r4 : List (S38)) (r5 : Bool) (r6 : Int) (r7 : Bool) (w : World) (h : comment_Read.f a0 a1 = some (r1, r2, r3, r4, r5, r6, r7)) :
    Calls Tryz.prog 75 #[.string a0, .int .i64 a1] w fun e w' => ∃ v3_ : Value, e = .returned (.tuple #[.agg #[.int .i64 r1, .string r2, .string r3, v3_, .bool r5], .int .i64 r6, .bool r7]) ∧ Kd.R k38 38 w' w.heap.size (fun _ => True) v3_ r4 ∧ Below w.heap.size w w' := by
  cases h
end Go.Proofs.YteccaekalcjihaaGreatDoor.PTn
set_option linter.unusedVariables false
namespace Go.Proofs.YteccaekalcjihaaGreatDoor.PTn
open Go.RowKit Go.Lib Go.Proofs.YteccaekalcjihaaGreatDoorW.PrintWords Go.Proofs.YteccaekalcjihaaGreatDoorW.PrintLast Go.Proofs.YteccaekalcjihaaGreatDoorW.PrintMore
def doctype_Read.f (s : ByteArray) (i : Int) : Option (Int × ByteArray × ByteArray × (List S38) × Bool × Int × Bool) := none
theorem doctype_Read.calls (a0 : ByteArray) (a1 : Int) (r1 : Int) (r2 : ByteArray) (r3 : ByteArray) (r4 : List (S38)) (r5 : Bool) (r6 : Int) (r7 : Bool) (w : World) (h : doctype_Read.f a0 a1 = some (r1, r2, r3, r4, r5, r6, r7)) :
    Calls Tryz.prog 77 #[.string a0, .int .i64 a1] w fun e w' => ∃ v3_ : Value, e = .returned (.tuple #[.agg #[.int .i64 r1, .string r2, .string r3, v3_, .bool r5], .int .i64 r6, .bool r7]) ∧ Kd.R k38 38 w' w.heap.size (fun _ => True) v3_ r4 ∧ Below w.heap.size w w' := by
  cases h
end Go.Proofs.YteccaekalcjihaaGreatDoor.PTn
set_option linter.unusedVariables false
namespace Go.Proofs.YteccaekalcjihaaGreatDoor.PTn
open Go.RowKit Go.Lib Go.Proofs.YteccaekalcjihaaGreatDoorW.PrintWords
def noZero (l : List UInt8) : Bool := !(l.elem 0)
def lines_Clean.f (a0 : ByteArray) : Option ByteArray := if noZero a0.data.toList = true then some a0 else none
theorem noZero_count {l : List UInt8} (h : noZero l = true) : Lib.countByte l 0 = 0 := by
  unfold Lib.countByte
  rw [List.count_eq_zero]
  simpa [noZero] using h
set_option maxHeartbeats 1000000 in
set_option maxRecDepth 100000 in
theorem replace_none (s : ByteArray) (w : World) (h : Aside0 (noZero s.data.toList = true)) :
    Calls Tryz.prog 157 #[.string s, .string ⟨#[0]⟩, .string ⟨#[239, 191, 189]⟩, .int .i64 (-1)] w fun e w' => e = .returned (.string s) ∧ w' = w := by
  have hc := Aside0.mk (show ((Lib.countByte s.data.toList 0 : Nat) : Int) = 0 by rw [noZero_count h.out]; rfl)
  go_enter Tryz.func157, Tryz.ntmps157
  go_wp2_with (go_at_call 185; (with_reducible refine (Tryz.strings_Count_one s 0 _).mono ?_); rw [hc.out]; rintro e w1 ⟨rfl, rfl⟩)
  go_ret
  exact ⟨rfl, rfl⟩
set_option maxHeartbeats 1000000 in
set_option maxRecDepth 100000 in
theorem replaceAll_none (s : ByteArray) (w : World) (h : Aside0 (noZero s.data.toList = true)) :
    Calls Tryz.prog 113 #[.string s, .string ⟨#[0]⟩, .string ⟨#[239, 191, 189]⟩] w fun e w' => e = .returned (.string s) ∧ w' = w := by
  go_enter Tryz.func113, Tryz.ntmps113
  go_wp2_with (go_at_call 157; (with_reducible refine (replace_none s _ h).mono ?_); rintro e w1 ⟨rfl, rfl⟩)
  go_ret
  exact ⟨rfl, rfl⟩
set_option maxHeartbeats 1000000 in
set_option maxRecDepth 100000 in
theorem lines_Clean.calls (a0 : ByteArray) (r : ByteArray) (w : World) (h : lines_Clean.f a0 = some r) :
    Calls Tryz.prog 59 #[.string a0] w fun e w' => e = .returned (.string r) ∧ Below w.heap.size w w' := by
  unfold lines_Clean.f at h
  split at h
  · rename_i hz
    obtain rfl := Option.some.inj h
    have HZ := Aside0.mk hz
    clear h hz
    go_enter Tryz.func59, Tryz.ntmps59
    go_wp2_with (go_at_call 113; (with_reducible refine (replaceAll_none a0 _ HZ).mono ?_); rintro e w1 ⟨rfl, rfl⟩)
    go_ret
    exact ⟨rfl, Below.refl _ _⟩
  · cases h
end Go.Proofs.YteccaekalcjihaaGreatDoor.PTn
