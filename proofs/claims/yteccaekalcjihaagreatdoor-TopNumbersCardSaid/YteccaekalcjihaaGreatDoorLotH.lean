/- Several texts of this claim, laid together into one file. -/
import Derived.Test.YteccaekalcjihaaGreatDoorLotB
import Derived.Test.YteccaekalcjihaaGreatDoorLotF
import Derived.Test.YteccaekalcjihaaGreatDoorLotG
import Derived.Test.YteccaekalcjihaaGreatDoorLotC
import Derived.Test.YteccaekalcjihaaGreatDoorLotD
set_option linter.unusedSimpArgs false
set_option linter.unusedVariables false
namespace Go.Proofs.YteccaekalcjihaaGreatDoor.PTn
open Go.RowKit Go.Proofs.YteccaekalcjihaaGreatDoorW.PrintWords Go.Proofs.YteccaekalcjihaaGreatDoorW.PrintLast Go.Proofs.YteccaekalcjihaaGreatDoorW.PrintMore
attribute [local go_sem] max2_int min2_int max_two min_two max_three min_three max_four min_four
set_option linter.unusedVariables false
set_option linter.unusedSimpArgs false
noncomputable def drive_Drive.l0 : Nat → ByteArray → List (S40) → Int → Option ((List (S40)))
  | 0, _, _, _ => none
  | k + 1, x0, x3, x4 => if x4 < (x0.size : Int) then ((tok_Next.f k x0 x4).bind fun bt221 => (if bt221.2.2.2.2.2.2 = true then (if x3.length < 1954687338268 then ((some (x3 ++ [(⟨bt221.1, bt221.2.1, bt221.2.2.1, bt221.2.2.2.1, bt221.2.2.2.2.1⟩ : S40)] : List (S40))).bind fun y231 => (if bt221.1 = 1 then ((drive_State.f bt221.2.1).bind fun t234 => ((tok_Rest.f k x0 bt221.2.2.2.2.2.1 t234 bt221.2.1).bind fun bt235 => (if y231.length + bt235.1.length < 1954687338268 then (drive_Drive.l0 k x0 (y231 ++ bt235.1) bt235.2) else (none)))) else (drive_Drive.l0 k x0 y231 bt221.2.2.2.2.2.1))) else (none)) else (drive_Drive.l0 k x0 x3 bt221.2.2.2.2.2.1))) else ((tok_Join.f x3).bind fun t218 => (some t218))
noncomputable def drive_Drive.f (k : Nat) (a0 : ByteArray) : Option ((List (S40))) := drive_Drive.l0 k a0 ([] : List (S40)) 0
noncomputable def drive_Drive.T9 : Bool × List (List Nat × List Nat) := (true, [([], []), ([], []), ([], []), ([2], [2]), ([3], [3]), ([], []), ([5], [5]), ([0, 1, 4, 6, 4], [0, 1, 4, 6]), ([7], [7]), ([8], [8]), ([8], [8]), ([9, 7, 0, 1, 2, 3, 4, 5, 6, 7, 8, 9], [9]), ([10, 11, 0, 1, 2, 3, 4, 5, 6, 7, 8, 9, 10, 11], [10])])
noncomputable def drive_Drive.B9 : List Nat := [0, 0, 0, 4, 12, 0, 32, 127, 255, 511, 511, 1023, 4095]
theorem drive_Drive.tab9 : rtab .any (opsOf Tryz.f8 9) = drive_Drive.T9 := by kernel_rfl
theorem drive_Drive.bits9 : waitsOk drive_Drive.T9.2 drive_Drive.B9 = true := by kernel_rfl
set_option maxHeartbeats 8000000 in
set_option maxRecDepth 100000 in
theorem drive_Drive.calls (k : Nat) (a0 : ByteArray) (r : List (S40)) (w : World) (hG : GW w) (h : drive_Drive.f k a0 = some r) :
    Calls Tryz.prog 8 #[.string a0] w fun e w' => ∃ v0_ : Value, e = .returned (v0_) ∧ Kd.N k40 40 w' w.heap.size (fun k_ => (w.heap.size ≤ k_)) v0_ r ∧ Below w.heap.size w w' := by
  have hu40 := Tryz.underlying40
  have HB := Aside0.mk (Below.refl w.heap.size w)
  have H : (drive_Drive.l0 k a0 ([] : List (S40)) 0) = some r := h
  clear h
  have H' := Aside0.mk H
  clear H
  go_enter Tryz.func8, Tryz.ntmps8
  go_wp2
  go_loopg [3, 4] k (fun kq v3 v4 w' => ∃ (x3_1 : List (S40)) (x4_1 : Int), v4 = .int .i64 x4_1 ∧ Aside0 (drive_Drive.l0 kq a0 x3_1 x4_1 = some r) ∧ Aside0 (kq ≤ k) ∧ Aside0 (Kd.N k40 40 w' w.heap.size (fun k_ => (w.heap.size ≤ k_)) v3 x3_1) ∧ Aside0 (Below w.heap.size w w'))
  case atStart => exact ⟨(([] : List (S40))), (0), (by first | rfl | (simp; done) | (simp [*]; done)), H', ⟨Nat.le_refl _⟩, ⟨by first | exact Kd.S_nil _ _ _ _ _ | exact Kd.N_nil _ _ _ _ _ | exact Kd.V_nil _ _ _ _ _ | exact Kd.Q_nil _ _ _ _ _ | exact Kd.R_nil _ _ _ _ _⟩, ⟨by with_reducible repeat first | exact HB.out | apply below_alloc | apply pw_below_drewN | apply below_drew1⟩⟩
  case round =>
    clear H'
    obtain ⟨x3_1, x4_1, rfl, HA, HK1, HO_3, HB⟩ := hrel
    cases gk with
    | zero => exact absurd HA.out (by simp [drive_Drive.l0])
    | succ k1 =>
      have H := HA.out
      clear HA
      simp only [drive_Drive.l0] at H
      by_cases c2 : x4_1 < (a0.size : Int)
      · rw [if_pos c2] at H
        have c2b0 : decide (x4_1 < (a0.size : Int)) = true := decide_eq_true c2
        clear c2
        replace H := Option.bind_eq_some_iff.mp H
        obtain ⟨⟨t221, t222, t223, t224, t227, t228, t229⟩, A30, H⟩ := H
        (try dsimp only at H)
        have A3 := Aside0.mk A30
        clear A30
        by_cases c4 : t229 = true
        · subst c4
          rw [if_pos rfl] at H
          by_cases c5 : x3_1.length < 1954687338268
          · rw [if_pos c5] at H
            have LMc5 := Aside0.mk c5
            clear c5
            obtain ⟨y231, hy231⟩ : ∃ y_ : List (S40), y_ = (x3_1 ++ [(⟨t221, t222, t223, t224, t227⟩ : S40)]) := ⟨_, rfl⟩
            replace H : (if t221 = 1 then ((drive_State.f t222).bind fun t234 => ((tok_Rest.f k1 a0 t228 t234 t222).bind fun bt235 => (if y231.length + bt235.1.length < 1954687338268 then (drive_Drive.l0 k1 a0 (y231 ++ bt235.1) bt235.2) else (none)))) else (drive_Drive.l0 k1 a0 y231 t228)) = some r := by first | (rw [hy231]; with_reducible exact H) | (have H2_ := (Option.bind_some _ _).symm.trans H; rw [hy231]; with_reducible exact H2_) | (have H2_ := (Option.bind_some _ _).symm.trans H; with_reducible exact H2_) | with_reducible exact H | (rw [hy231]; exact H) | exact H
            have Ny231 := Aside0.mk hy231
            clear hy231
            by_cases c6 : t221 = 1
            · rw [if_pos c6] at H
              have c6b0 : (t221 == 1) = true := beq_iff_eq.mpr c6
              have c6b1 : (t221 != 1) = false := bne_eq_false_iff_eq.mpr c6
              clear c6
              replace H := Option.bind_eq_some_iff.mp H
              obtain ⟨t234, A70, H⟩ := H
              (try dsimp only at H)
              have A7 := Aside0.mk A70
              clear A70
              replace H := Option.bind_eq_some_iff.mp H
              obtain ⟨⟨t235, t236⟩, A80, H⟩ := H
              (try dsimp only at H)
              have A8 := Aside0.mk A80
              clear A80
              by_cases c9 : y231.length + t235.length < 1954687338268
              · rw [if_pos c9] at H
                have LMc9 := Aside0.mk c9
                clear c9
                obtain ⟨y239, hy239⟩ : ∃ y_ : List (S40), y_ = (y231 ++ t235) := ⟨_, rfl⟩
                replace H : (drive_Drive.l0 k1 a0 y239 t236) = some r := by first | (rw [hy239]; with_reducible exact H) | (have H2_ := (Option.bind_some _ _).symm.trans H; rw [hy239]; with_reducible exact H2_) | (have H2_ := (Option.bind_some _ _).symm.trans H; with_reducible exact H2_) | with_reducible exact H | (rw [hy239]; exact H) | exact H
                have Ny239 := Aside0.mk hy239
                clear hy239
                have H' := Aside0.mk H
                clear H
                try go_wp2_with (first | ((with_reducible refine gate_callee (f := 27) rfl ?_); refine goesL_ (some 16) rfl rfl Tryz.func27 (by kernel_rfl) rfl #[.string a0, .int .i64 x4_1] rfl (by simp only [List.map_toArray, List.map_cons, List.map_nil] <;> rfl) ?_; (with_reducible refine (tok_Next.calls k1 a0 x4_1 t221 t222 t223 t224 t227 t228 true _ ?gw A3.out).mono ?_); (case gw => exact hG.at (by with_reducible repeat first | exact HB.out | apply below_alloc | apply pw_below_drewN | apply below_drew1)); rintro e w10 ⟨v225, rfl, ho0, hb⟩; refine ⟨_, rfl, ?_⟩; have n0_ := Aside0.mk (Kd.N_elder' (by (with_reducible repeat (first | apply Kd.N_alloc | apply Kd.N_drewN | apply Kd.N_drew)); exact HO_3.out) (Kd.R_base ho0) hb); have n1_ := Aside0.mk (Kd.R_lower (Kd.R_newM (M := fun k_ => (w.heap.size ≤ k_)) ho0 (below_size (by with_reducible repeat first | exact HB.out | apply below_alloc | apply pw_below_drewN | apply below_drew1)) (fun k_ h_ => h_)) (below_size (by with_reducible repeat first | exact HB.out | apply below_alloc | apply pw_below_drewN | apply below_drew1))); have n2_ := Aside0.mk (below_step (by with_reducible repeat first | exact HB.out | apply below_alloc | apply pw_below_drewN | apply below_drew1) hb); clear HO_3; clear HB; have HO_3 := n0_; have HO226 := n1_; have HB := n2_; clear n0_ n1_ n2_; (try clear hb); (try clear hb2); (try clear hk); (try clear hi); (try clear ho0)) | ((with_reducible refine gate_dst (N := 5) rfl ?_); refine box_event ?hg (N := 5) ?hd (cs := #[.int .i64 0, .string (⟨#[]⟩ : ByteArray), .string (⟨#[]⟩ : ByteArray), .slice none 0 0, .bool false]) (t := 40) ?hr ?_; (case hd => rfl); (case hg => rfl); (case hr => first | (go_simp; done) | (go_simp; rfl)); intro gb230 hg w11 hbox hb; have n0_ := Aside0.mk (Kd.N_below (Kd.N_elderB (by (with_reducible repeat (first | apply Kd.N_alloc | apply Kd.N_drewN | apply Kd.N_drew)); exact HO_3.out) gb230 (Nat.le_of_eq hg.symm)) hb); have n1_ := Aside0.mk (Kd.R_below (by (with_reducible repeat (first | apply Kd.R_alloc | apply Kd.R_drewN | apply Kd.R_drew)); exact HO226.out) hb); have n2_ := Aside0.mk (below_step (by with_reducible repeat first | exact HB.out | apply below_alloc | apply pw_below_drewN | apply below_drew1) hb); have n3_ := Aside0.mk (hbox); have n4_ := Aside0.mk ((by rw [hg]; exact (below_size (by with_reducible repeat first | exact HB.out | apply below_alloc | apply pw_below_drewN | apply below_drew1)) : w.heap.size ≤ gb230)); have n5_ := Aside0.mk ((by rw [hg]; exact (below_size (by with_reducible repeat first | exact HB.out | apply below_alloc | apply pw_below_drewN | apply below_drew1)) : w.heap.size ≤ gb230)); clear HO_3; clear HO226; clear HB; have HO_3 := n0_; have HO226 := n1_; have HB := n2_; have BK230 := n3_; have GW230 := n4_; have GE230 := n5_; clear n0_ n1_ n2_ n3_ n4_ n5_; clear hb hbox hg; have hcz12_0 : w11.cell? ⟨gb230, 0, none⟩ = some (.int .i64 0) := (blk_cell BK230.out 0).trans rfl; have hcz12_1 : w11.cell? ⟨gb230, 1, none⟩ = some (.string (⟨#[]⟩ : ByteArray)) := (blk_cell BK230.out 1).trans rfl; have hcz12_2 : w11.cell? ⟨gb230, 2, none⟩ = some (.string (⟨#[]⟩ : ByteArray)) := (blk_cell BK230.out 2).trans rfl; have hcz12_3 : w11.cell? ⟨gb230, 3, none⟩ = some (.slice none 0 0) := (blk_cell BK230.out 3).trans rfl; have hcz12_4 : w11.cell? ⟨gb230, 4, none⟩ = some (.bool false) := (blk_cell BK230.out 4).trans rfl; have hfz12_0 := blk_frozen BK230.out 0; have hfz12_1 := blk_frozen BK230.out 1; have hfz12_2 := blk_frozen BK230.out 2; have hfz12_3 := blk_frozen BK230.out 3; have hfz12_4 := blk_frozen BK230.out 4; obtain ⟨Ao13, co13, eo13⟩ := Kd.R_slice HO226.out; subst eo13) | ((with_reducible refine gate_store (t := 40) (p := 5) rfl ?_); refine store_event (t := 40) (p := 5) (v := ?vo_w14) (w1 := (((((w11.setCell ⟨gb230, 0, none⟩ (.int .i64 t221)).setCell ⟨gb230, 1, none⟩ (.string t222)).setCell ⟨gb230, 2, none⟩ (.string t223)).setCell ⟨gb230, 3, none⟩ (.slice Ao13 t224.length co13)).setCell ⟨gb230, 4, none⟩ (.bool t227))) ?hg ?ho ?hn ?hr ?_; (case ho => rfl); (case hg => rfl); (case hn => rfl); (case hr => first | (go_simp; done) | (go_simp; rfl)); intro w14 hw; have n0_ : Aside0 (Kd.N k40 40 w14 w.heap.size (fun k_ => (w.heap.size ≤ k_) ∧ some k_ ≠ (.slice Ao13 t224.length co13 : Value).ownBlock ∧ k_ ≠ gb230) u3 x3_1) := ⟨(by rw [hw]; exact (by (with_reducible repeat (first | apply Kd.N_alloc | apply Kd.N_drewN | apply Kd.N_drew)); exact Kd.N_mono (Kd.N_far (p := ⟨gb230, 4, none⟩) (Kd.N_far (p := ⟨gb230, 3, none⟩) (Kd.N_far (p := ⟨gb230, 2, none⟩) (Kd.N_far (p := ⟨gb230, 1, none⟩) (Kd.N_far (p := ⟨gb230, 0, none⟩) (Kd.N_mono HO_3.out (fun k_ hk => (⟨hk, hk.2⟩ : _ ∧ k_ ≠ gb230))) (fun _ hk => hk.2) (.int .i64 t221)) (fun _ hk => hk.2) (.string t222)) (fun _ hk => hk.2) (.string t223)) (fun _ hk => hk.2) (.slice Ao13 t224.length co13)) (fun _ hk => hk.2) (.bool t227)) (fun _ hk => ⟨hk.1.1.1, ⟨hk.1.1.2, hk.1.2⟩⟩)))⟩; have n1_ : Aside0 (Kd.R k38 38 w14 w.heap.size (fun k_ => (w.heap.size ≤ k_)) (.slice Ao13 t224.length co13) t224) := ⟨(by rw [hw]; exact (by (with_reducible repeat (first | apply Kd.R_alloc | apply Kd.R_drewN | apply Kd.R_drew)); exact Kd.R_mono (Kd.R_far (p := ⟨gb230, 4, none⟩) (Kd.R_far (p := ⟨gb230, 3, none⟩) (Kd.R_far (p := ⟨gb230, 2, none⟩) (Kd.R_far (p := ⟨gb230, 1, none⟩) (Kd.R_far (p := ⟨gb230, 0, none⟩) (Kd.R_types HO226.out BK230.out (by decide)) (fun _ hk => hk.2) (.int .i64 t221)) (fun _ hk => hk.2) (.string t222)) (fun _ hk => hk.2) (.string t223)) (fun _ hk => hk.2) (.slice Ao13 t224.length co13)) (fun _ hk => hk.2) (.bool t227)) (fun _ hk => hk.1.1)))⟩; have n2_ : Aside0 (w14.heap[gb230]? = some (.cells #[.int .i64 t221, .string t222, .string t223, .slice Ao13 t224.length co13, .bool t227] 40 (0, 0))) := ⟨(by rw [hw]; exact (by (with_reducible repeat (first | refine blk_drewN ?_ _ | refine blk_drew ?_ | refine blk_alloc ?_ _)); refine blk_put (cs := #[.int .i64 t221, .string t222, .string t223, .slice Ao13 t224.length co13, .bool false]) ?_ 4 _ rfl; (with_reducible repeat (first | refine blk_drewN ?_ _ | refine blk_drew ?_ | refine blk_alloc ?_ _)); refine blk_put (cs := #[.int .i64 t221, .string t222, .string t223, .slice none 0 0, .bool false]) ?_ 3 _ rfl; (with_reducible repeat (first | refine blk_drewN ?_ _ | refine blk_drew ?_ | refine blk_alloc ?_ _)); refine blk_put (cs := #[.int .i64 t221, .string t222, .string (⟨#[]⟩ : ByteArray), .slice none 0 0, .bool false]) ?_ 2 _ rfl; (with_reducible repeat (first | refine blk_drewN ?_ _ | refine blk_drew ?_ | refine blk_alloc ?_ _)); refine blk_put (cs := #[.int .i64 t221, .string (⟨#[]⟩ : ByteArray), .string (⟨#[]⟩ : ByteArray), .slice none 0 0, .bool false]) ?_ 1 _ rfl; (with_reducible repeat (first | refine blk_drewN ?_ _ | refine blk_drew ?_ | refine blk_alloc ?_ _)); refine blk_put (cs := #[.int .i64 0, .string (⟨#[]⟩ : ByteArray), .string (⟨#[]⟩ : ByteArray), .slice none 0 0, .bool false]) ?_ 0 _ rfl; (with_reducible repeat (first | refine blk_drewN ?_ _ | refine blk_drew ?_ | refine blk_alloc ?_ _)); exact BK230.out))⟩; have n3_ : Aside0 (Below w.heap.size w w14) := ⟨(by rw [hw]; exact (by repeat (first | (with_reducible first | exact HB.out | apply below_alloc | apply pw_below_drewN | apply below_drew1 | refine below_set ?_ GE230.out) | exact HB.out)))⟩; clear hw; clear HO_3; clear HO226; clear BK230; clear HB; have HO_3 := n0_; have HO226 := n1_; have BK230 := n2_; have HB := n3_; clear n0_ n1_ n2_ n3_; have hcz15_0 : w14.cell? ⟨gb230, 0, none⟩ = some (.int .i64 t221) := (blk_cell BK230.out 0).trans rfl; have hcz15_1 : w14.cell? ⟨gb230, 1, none⟩ = some (.string t222) := (blk_cell BK230.out 1).trans rfl; have hcz15_2 : w14.cell? ⟨gb230, 2, none⟩ = some (.string t223) := (blk_cell BK230.out 2).trans rfl; have hcz15_3 : w14.cell? ⟨gb230, 3, none⟩ = some (.slice Ao13 t224.length co13) := (blk_cell BK230.out 3).trans rfl; have hcz15_4 : w14.cell? ⟨gb230, 4, none⟩ = some (.bool t227) := (blk_cell BK230.out 4).trans rfl; have hfz15_0 := blk_frozen BK230.out 0; have hfz15_1 := blk_frozen BK230.out 1; have hfz15_2 := blk_frozen BK230.out 2; have hfz15_3 := blk_frozen BK230.out 3; have hfz15_4 := blk_frozen BK230.out 4) | ((with_reducible refine gate_builtin (b := .append) (xs := #[.tmp 23, .tmp 25]) rfl ?_); at_builtin; refine Kd.N_append k40 (w0 := w) w.heap.size rfl (.tmp 23) (.tmp 25) 26 40 (.agg #[(.int .i64 0), (.string ⟨#[]⟩), (.string ⟨#[]⟩), (.slice none 0 0), (.bool false)]) 72 rfl Tryz.underlying26 info40 rfl (by decide) (by omega) u3 x3_1 (⟨t221, t222, t223, t224, t227⟩ : S40) [.int .i64 t221, .string t222, .string t223, .slice Ao13 t224.length co13, .bool t227] (fun k_ => (w.heap.size ≤ k_) ∧ k_ ≠ gb230) (fun k_ => ((fun k_ => (w.heap.size ≤ k_) ∧ k_ ≠ gb230)) k_ ∧ some k_ ≠ (u3 : Value).ownBlock) rfl rfl ?aP (fun _ hk => hk) ?aF ?aO ?aB ?aS ?aL ?_; (case aP => exact (k40_mkF _ _ (⟨t221, t222, t223, t224, t227⟩ : S40) (Kd.R_reads' (Kd.R_mono (ok' := (fun k_ => ((fun k_ => (w.heap.size ≤ k_) ∧ k_ ≠ gb230)) k_ ∧ some k_ ≠ (u3 : Value).ownBlock)) (Kd.R_types (Kd.R_apart' (HO226.out) (Kd.N_typed HO_3.out) (by decide)) BK230.out (by decide)) (fun k_ hk => ⟨⟨hk.1.1, hk.2⟩, hk.1.2⟩))).2.1 (Kd.R_F (Kd.R_mono (ok' := (fun k_ => ((fun k_ => (w.heap.size ≤ k_) ∧ k_ ≠ gb230)) k_ ∧ some k_ ≠ (u3 : Value).ownBlock)) (Kd.R_types (Kd.R_apart' (HO226.out) (Kd.N_typed HO_3.out) (by decide)) BK230.out (by decide)) (fun k_ hk => ⟨⟨hk.1.1, hk.2⟩, hk.1.2⟩))))); (case aB => exact (by repeat (first | (with_reducible first | exact HB.out | apply below_alloc | apply pw_below_drewN | apply below_drew1 | refine below_set ?_ GE230.out) | exact HB.out))); (case aF => exact (fun k_ hk => ⟨(Nat.le_trans (below_size (by repeat (first | (with_reducible first | exact HB.out | apply below_alloc | apply pw_below_drewN | apply below_drew1 | refine below_set ?_ GE230.out) | exact HB.out))) hk), Kd.freshB (g := gb230) (o := .cells #[.int .i64 t221, .string t222, .string t223, .slice Ao13 t224.length co13, .bool t227] 40 (0, 0)) (by (with_reducible repeat (first | refine blk_drewN ?_ _ | refine blk_drew ?_ | refine blk_alloc ?_ _)); exact BK230.out) k_ hk⟩)); (case aO => exact (by (with_reducible repeat (first | apply Kd.N_alloc | apply Kd.N_drewN | apply Kd.N_drew)); exact Kd.N_mono HO_3.out (fun _ hk => ⟨hk.1, hk.2.2⟩))); (case aS => exact (below_size (by repeat (first | (with_reducible first | exact HB.out | apply below_alloc | apply pw_below_drewN | apply below_drew1 | refine below_set ?_ GE230.out) | exact HB.out)))); (case aL => have := LMc5.out; omega); intro v232 w16 ho hb hg hat; rw [← Ny231.out] at ho; have n0_ := Aside0.mk (blk_grown (g := gb230) (o := .cells #[.int .i64 t221, .string t222, .string t223, .slice Ao13 t224.length co13, .bool t227] 40 (0, 0)) (by (with_reducible repeat (first | refine blk_drewN ?_ _ | refine blk_drew ?_ | refine blk_alloc ?_ _)); exact BK230.out) hg (Kd.N_away HO_3.out (fun _ hk => hk.2.2))); have n1_ := Aside0.mk (hb); have n2_ := Aside0.mk (ho); clear BK230; clear HB; clear HO_3; clear HO226; have BK230 := n0_; have HB := n1_; have HO233 := n2_; clear n0_ n1_ n2_; clear ho hb hg hat; have hcz17_0 : w16.cell? ⟨gb230, 0, none⟩ = some (.int .i64 t221) := (blk_cell BK230.out 0).trans rfl; have hcz17_1 : w16.cell? ⟨gb230, 1, none⟩ = some (.string t222) := (blk_cell BK230.out 1).trans rfl; have hcz17_2 : w16.cell? ⟨gb230, 2, none⟩ = some (.string t223) := (blk_cell BK230.out 2).trans rfl; have hcz17_3 : w16.cell? ⟨gb230, 3, none⟩ = some (.slice Ao13 t224.length co13) := (blk_cell BK230.out 3).trans rfl; have hcz17_4 : w16.cell? ⟨gb230, 4, none⟩ = some (.bool t227) := (blk_cell BK230.out 4).trans rfl; have hfz17_0 := blk_frozen BK230.out 0; have hfz17_1 := blk_frozen BK230.out 1; have hfz17_2 := blk_frozen BK230.out 2; have hfz17_3 := blk_frozen BK230.out 3; have hfz17_4 := blk_frozen BK230.out 4))
                have n0_ := Aside0.mk (Kd.N_drew HO233.out)
                have n1_ := Aside0.mk (blk_drew BK230.out)
                have n2_ := Aside0.mk (below_drew1 HB.out)
                clear HO233
                clear BK230
                clear HB
                have HO233 := n0_
                have BK230 := n1_
                have HB := n2_
                clear n0_ n1_ n2_
                refine start_ (n := 13) (S := fun w' => w'.cell? ⟨gb230, 0, none⟩ = some (.int .i64 t221) ∧ w'.cell? ⟨gb230, 1, none⟩ = some (.string t222) ∧ w'.cell? ⟨gb230, 2, none⟩ = some (.string t223) ∧ w'.cell? ⟨gb230, 3, none⟩ = some (.slice Ao13 t224.length co13) ∧ w'.cell? ⟨gb230, 4, none⟩ = some (.bool t227)) (ds := []) #[false, false, false, false, false, false, false, false, false, false, false, false, false] (by kernel_rfl) rfl rfl ⟨(blk_cell BK230.out 0).trans rfl, (blk_cell BK230.out 1).trans rfl, (blk_cell BK230.out 2).trans rfl, (blk_cell BK230.out 3).trans rfl, (blk_cell BK230.out 4).trans rfl⟩ (fun hHeld => ?_); refine with_tabW drive_Drive.tab9 drive_Drive.bits9 (fun HT_ HW_ => ?_)
                generalize w16.drew = w18 at HO233 BK230 HB hHeld ⊢
                refine pure_ (i := 0) (N := some 31) (v := ?_) (a' := ?_) #[true, false, false, false, false, false, false, false, false, false, false, false, false] rfl rfl (any_of HT_.out (by kernel_rfl)) (fun _ _ _ h => h) (Or.inl ⟨by rfl, ?_⟩) ?_ ?_
                rotate_left
                · intro w'
                  go_simp
                  with_reducible rfl
                rotate_left
                · simp only [Act.put, List.setIfInBounds_toArray, List.set_cons_zero, List.set_cons_succ, i64_w, i32_w]
                  rfl
                refine pure_ (i := 1) (N := some 32) (v := ?_) (a' := ?_) #[true, true, false, false, false, false, false, false, false, false, false, false, false] rfl rfl (any_of HT_.out (by kernel_rfl)) (fun _ _ _ h => h) (Or.inl ⟨by rfl, ?_⟩) ?_ ?_
                rotate_left
                · intro w'
                  go_simp
                  with_reducible rfl
                rotate_left
                · simp only [Act.put, List.setIfInBounds_toArray, List.set_cons_zero, List.set_cons_succ, i64_w, i32_w]
                  rfl
                refine pure_ (i := 2) (N := some 33) (v := ?_) (a' := ?_) #[true, true, true, false, false, false, false, false, false, false, false, false, false] rfl rfl (any_of HT_.out (by kernel_rfl)) (fun _ _ _ h => h) (Or.inl ⟨by rfl, ?_⟩) ?_ ?_
                rotate_left
                · intro w'
                  go_simp
                  with_reducible rfl
                rotate_left
                · simp only [Act.put, List.setIfInBounds_toArray, List.set_cons_zero, List.set_cons_succ, i64_w, i32_w]
                  rfl
                refine pure_ (i := 5) (N := some 36) (v := ?_) (a' := ?_) #[true, true, true, false, false, true, false, false, false, false, false, false, false] rfl rfl (any_of HT_.out (by kernel_rfl)) (fun _ _ _ h => h) (Or.inl ⟨by rfl, ?_⟩) ?_ ?_
                rotate_left
                · intro w'
                  go_simp
                  with_reducible rfl
                rotate_left
                · simp only [Act.put, List.setIfInBounds_toArray, List.set_cons_zero, List.set_cons_succ, i64_w, i32_w]
                  rfl
                refine take_ (i := 3) (N := some 34) (v := ?_) (a' := ?_) #[true, true, true, true, false, true, false, false, false, false, false, false, false] rfl rfl (take_ofW HT_.out HW_.out (by kernel_rfl)) (fun _ _ _ h => h) (Or.inl ⟨by rfl, ?_⟩) hHeld ?_ ?_
                rotate_left
                · rintro w' ⟨s0, s1, s2, s3, s4⟩
                  go_simp
                  with_reducible rfl
                rotate_left
                · simp only [Act.put, List.setIfInBounds_toArray, List.set_cons_zero, List.set_cons_succ, i64_w, i32_w]
                  rfl
                refine take_ (i := 6) (N := some 37) (v := ?_) (a' := ?_) #[true, true, true, true, false, true, true, false, false, false, false, false, false] rfl rfl (take_ofW HT_.out HW_.out (by kernel_rfl)) (fun _ _ _ h => h) (Or.inl ⟨by rfl, ?_⟩) hHeld ?_ ?_
                rotate_left
                · rintro w' ⟨s0, s1, s2, s3, s4⟩
                  go_simp
                  with_reducible rfl
                rotate_left
                · simp only [Act.put, List.setIfInBounds_toArray, List.set_cons_zero, List.set_cons_succ, i64_w, i32_w]
                  rfl
                refine one_ (i := 4) (N := some 35) #[true, true, true, true, true, true, true, false, false, false, false, false, false] rfl rfl (one_of HT_.out (by kernel_rfl)) (by decide) (fun K hK => ?_)
                refine goes_ Tryz.func29 (by kernel_rfl) rfl #[.string t222] (by rfl) rfl rfl (by simp only [List.map_toArray, List.map_cons, List.map_nil] <;> rfl) ?_
                with_reducible refine (drive_State.calls t222 t234 _ A7.out).mono ?_
                rintro e w19 ⟨rfl, hb⟩
                refine ⟨_, rfl, ?_⟩
                have n0_ := Aside0.mk (Kd.N_below (by (with_reducible repeat (first | apply Kd.N_alloc | apply Kd.N_drewN | apply Kd.N_drew)); exact HO233.out) hb)
                have n1_ := Aside0.mk (blk_below (g := gb230) (o := .cells #[.int .i64 t221, .string t222, .string t223, .slice Ao13 t224.length co13, .bool t227] 40 (0, 0)) (by (with_reducible repeat (first | refine blk_drewN ?_ _ | refine blk_drew ?_ | refine blk_alloc ?_ _)); exact BK230.out) hb)
                have n2_ := Aside0.mk (below_step (by repeat (first | (with_reducible first | exact HB.out | apply below_alloc | apply pw_below_drewN | apply below_drew1 | refine below_set ?_ GE230.out) | exact HB.out)) hb)
                clear HO233
                clear BK230
                clear HB
                have HO233 := n0_
                have BK230 := n1_
                have HB := n2_
                clear n0_ n1_ n2_
                (try clear hb)
                (try clear hb2)
                (try clear hk)
                (try clear hi)
                refine hK.out _ _ ⟨(blk_cell BK230.out 0).trans rfl, (blk_cell BK230.out 1).trans rfl, (blk_cell BK230.out 2).trans rfl, (blk_cell BK230.out 3).trans rfl, (blk_cell BK230.out 4).trans rfl⟩ (fun hHeld => ?_)
                clear hK K
                refine norm_ (a' := ?_) ?_ ?_
                rotate_left
                · show Act.put _ (some 35) _ = _
                  simp only [Act.put, List.setIfInBounds_toArray, List.set_cons_zero, List.set_cons_succ, i64_w, i32_w]
                  rfl
                refine one_ (i := 7) (N := some 38) #[true, true, true, true, true, true, true, true, false, false, false, false, false] rfl rfl (one_of HT_.out (by kernel_rfl)) (by decide) (fun K hK => ?_)
                refine goes_ Tryz.func28 (by kernel_rfl) rfl #[.string a0, .int .i64 t228, .int .i64 t234, .string t222] (by rfl) rfl rfl (by simp only [List.map_toArray, List.map_cons, List.map_nil] <;> rfl) ?_
                with_reducible refine (tok_Rest.calls k1 a0 t228 t234 t222 t235 t236 _ ?gw A8.out).mono ?_
                case gw => exact hG.at (by repeat (first | (with_reducible first | exact HB.out | apply below_alloc | apply pw_below_drewN | apply below_drew1 | refine below_set ?_ GE230.out) | exact HB.out))
                rintro e w20 ⟨v237, rfl, ho0, hb⟩
                refine ⟨_, rfl, ?_⟩
                have n0_ := Aside0.mk (Kd.N_elder' (by (with_reducible repeat (first | apply Kd.N_alloc | apply Kd.N_drewN | apply Kd.N_drew)); exact HO233.out) (Kd.N_base (Kd.S_N ho0)) hb)
                have n1_ := Aside0.mk (Kd.N_lower (Kd.N_mono (ok' := fun k_ => (w.heap.size ≤ k_) ∧ some k_ ≠ (v232 : Value).ownBlock ∧ k_ ≠ gb230) (Kd.S_N (Kd.S_bound ho0)) (fun k_ hk_ => ⟨(Nat.le_trans (below_size (by repeat (first | (with_reducible first | exact HB.out | apply below_alloc | apply pw_below_drewN | apply below_drew1 | refine below_set ?_ GE230.out) | exact HB.out))) hk_.2.1), (Kd.fresh' (Kd.N_lt (by (with_reducible repeat (first | apply Kd.N_alloc | apply Kd.N_drewN | apply Kd.N_drew)); exact HO233.out)) k_ hk_.2.1), (Kd.freshB (g := gb230) (o := .cells #[.int .i64 t221, .string t222, .string t223, .slice Ao13 t224.length co13, .bool t227] 40 (0, 0)) (by (with_reducible repeat (first | refine blk_drewN ?_ _ | refine blk_drew ?_ | refine blk_alloc ?_ _)); exact BK230.out) k_ hk_.2.1)⟩)) (below_size (by repeat (first | (with_reducible first | exact HB.out | apply below_alloc | apply pw_below_drewN | apply below_drew1 | refine below_set ?_ GE230.out) | exact HB.out))))
                have n2_ := Aside0.mk (blk_below (g := gb230) (o := .cells #[.int .i64 t221, .string t222, .string t223, .slice Ao13 t224.length co13, .bool t227] 40 (0, 0)) (by (with_reducible repeat (first | refine blk_drewN ?_ _ | refine blk_drew ?_ | refine blk_alloc ?_ _)); exact BK230.out) hb)
                have n3_ := Aside0.mk (below_step (by repeat (first | (with_reducible first | exact HB.out | apply below_alloc | apply pw_below_drewN | apply below_drew1 | refine below_set ?_ GE230.out) | exact HB.out)) hb)
                clear HO233
                clear BK230
                clear HB
                have HO233 := n0_
                have HO238 := n1_
                have BK230 := n2_
                have HB := n3_
                clear n0_ n1_ n2_ n3_
                (try clear hb)
                (try clear hb2)
                (try clear hk)
                (try clear hi)
                (try clear ho0)
                refine hK.out _ _ ⟨(blk_cell BK230.out 0).trans rfl, (blk_cell BK230.out 1).trans rfl, (blk_cell BK230.out 2).trans rfl, (blk_cell BK230.out 3).trans rfl, (blk_cell BK230.out 4).trans rfl⟩ (fun hHeld => ?_)
                clear hK K
                refine norm_ (a' := ?_) ?_ ?_
                rotate_left
                · show Act.put _ (some 38) _ = _
                  simp only [Act.put, List.setIfInBounds_toArray, List.set_cons_zero, List.set_cons_succ, i64_w, i32_w]
                  rfl
                refine pure_ (i := 8) (N := some 30) (v := ?_) (a' := ?_) #[true, true, true, true, true, true, true, true, true, false, false, false, false] rfl rfl (any_of HT_.out (by kernel_rfl)) (fun _ _ _ h => h) (Or.inl ⟨by rfl, ?_⟩) ?_ ?_
                rotate_left
                · intro w'
                  go_simp
                  with_reducible rfl
                rotate_left
                · simp only [Act.put, List.setIfInBounds_toArray, List.set_cons_zero, List.set_cons_succ, i64_w, i32_w]
                  rfl
                refine pure_ (i := 9) (N := some 39) (v := ?_) (a' := ?_) #[true, true, true, true, true, true, true, true, true, true, false, false, false] rfl rfl (any_of HT_.out (by kernel_rfl)) (fun _ _ _ h => h) (Or.inl ⟨by rfl, ?_⟩) ?_ ?_
                rotate_left
                · intro w'
                  go_simp
                  with_reducible rfl
                rotate_left
                · simp only [Act.put, List.setIfInBounds_toArray, List.set_cons_zero, List.set_cons_succ, i64_w, i32_w]
                  rfl
                refine pure_ (i := 10) (N := some 40) (v := ?_) (a' := ?_) #[true, true, true, true, true, true, true, true, true, true, true, false, false] rfl rfl (any_of HT_.out (by kernel_rfl)) (fun _ _ _ h => h) (Or.inl ⟨by rfl, ?_⟩) ?_ ?_
                rotate_left
                · intro w'
                  go_simp
                  with_reducible rfl
                rotate_left
                · simp only [Act.put, List.setIfInBounds_toArray, List.set_cons_zero, List.set_cons_succ, i64_w, i32_w]
                  rfl
                refine pure_ (i := 11) (N := some 8) (v := ?_) (a' := ?_) #[true, true, true, true, true, true, true, true, true, true, true, true, false] rfl rfl (any_of HT_.out (by kernel_rfl)) (fun _ _ _ h => h) (Or.inl ⟨by rfl, ?_⟩) ?_ ?_
                rotate_left
                · intro w'
                  go_simp
                  with_reducible rfl
                rotate_left
                · simp only [Act.put, List.setIfInBounds_toArray, List.set_cons_zero, List.set_cons_succ, i64_w, i32_w]
                  rfl
                refine pure_ (i := 12) (N := some 6) (v := ?_) (a' := ?_) #[true, true, true, true, true, true, true, true, true, true, true, true, true] rfl rfl (any_of HT_.out (by kernel_rfl)) (fun _ _ _ h => h) (Or.inl ⟨by rfl, ?_⟩) ?_ ?_
                rotate_left
                · intro w'
                  go_simp
                  with_reducible rfl
                rotate_left
                · simp only [Act.put, List.setIfInBounds_toArray, List.set_cons_zero, List.set_cons_succ, i64_w, i32_w]
                  rfl
                refine done_ (done_of HT_.out (by kernel_rfl)) ?_
                obtain ⟨Ao22, co22, eo22⟩ := Kd.N_slice HO238.out
                subst eo22
                try go_wp2_with (first | ((with_reducible refine gate_builtin (b := .append) (xs := #[.tmp 41, .tmp 42]) rfl ?_); at_builtin; refine Kd.N_append_rows k40 (w0 := w) w.heap.size rfl (.tmp 41) (.tmp 42) 26 40 (.agg #[(.int .i64 0), (.string ⟨#[]⟩), (.string ⟨#[]⟩), (.slice none 0 0), (.bool false)]) 72 rfl Tryz.underlying26 info40 rfl (by decide) (by omega) v232 y231 t235 _ _ _ (fun k_ => (w.heap.size ≤ k_) ∧ k_ ≠ gb230) (fun k_ => ((fun k_ => (w.heap.size ≤ k_) ∧ k_ ≠ gb230)) k_ ∧ some k_ ≠ (v232 : Value).ownBlock) rfl rfl ?aO ?aR (fun _ hk => hk) ?aF ?aB ?aS ?aL ?_; (case aR => exact (by skip; exact Kd.N_F (Kd.N_mono (ok' := (fun k_ => ((fun k_ => (w.heap.size ≤ k_) ∧ k_ ≠ gb230)) k_ ∧ some k_ ≠ (v232 : Value).ownBlock)) (HO238.out) (fun k_ hk => ⟨⟨hk.1, hk.2.2⟩, hk.2.1⟩)))); (case aB => exact (by repeat (first | (with_reducible first | exact HB.out | apply below_alloc | apply pw_below_drewN | apply below_drew1 | refine below_set ?_ GE230.out) | exact HB.out))); (case aF => exact (fun k_ hk => ⟨(Nat.le_trans (below_size (by repeat (first | (with_reducible first | exact HB.out | apply below_alloc | apply pw_below_drewN | apply below_drew1 | refine below_set ?_ GE230.out) | exact HB.out))) hk), Kd.freshB (g := gb230) (o := .cells #[.int .i64 t221, .string t222, .string t223, .slice Ao13 t224.length co13, .bool t227] 40 (0, 0)) (by (with_reducible repeat (first | refine blk_drewN ?_ _ | refine blk_drew ?_ | refine blk_alloc ?_ _)); exact BK230.out) k_ hk⟩)); (case aO => exact (by (with_reducible repeat (first | apply Kd.N_alloc | apply Kd.N_drewN | apply Kd.N_drew)); exact Kd.N_mono HO233.out (fun _ hk => ⟨hk.1.1, hk.1.2⟩))); (case aS => exact (below_size (by repeat (first | (with_reducible first | exact HB.out | apply below_alloc | apply pw_below_drewN | apply below_drew1 | refine below_set ?_ GE230.out) | exact HB.out)))); (case aL => have := LMc9.out; omega); intro v240 w21 ho hb hg hat; rw [← Ny239.out] at ho; have n0_ := Aside0.mk (blk_grown (g := gb230) (o := .cells #[.int .i64 t221, .string t222, .string t223, .slice Ao13 t224.length co13, .bool t227] 40 (0, 0)) (by (with_reducible repeat (first | refine blk_drewN ?_ _ | refine blk_drew ?_ | refine blk_alloc ?_ _)); exact BK230.out) hg (Kd.N_away HO233.out (fun _ hk => hk.1.2))); have n1_ := Aside0.mk (Kd.N_afterv (ok := (fun k_ => (w.heap.size ≤ k_) ∧ k_ ≠ gb230)) (by (with_reducible repeat (first | apply Kd.N_alloc | apply Kd.N_drewN | apply Kd.N_drew)); exact Kd.N_mono HO238.out (fun _ hk => ⟨⟨hk.1, hk.2.2⟩, hk.2.1⟩)) hg hat); have n2_ := Aside0.mk (hb); have n3_ := Aside0.mk (ho); clear BK230; clear HO238; clear HB; clear HO233; have BK230 := n0_; have HO238 := n1_; have HB := n2_; have HO241 := n3_; clear n0_ n1_ n2_ n3_; clear ho hb hg hat))
                go_roundg k1
                case measure => have := HK1.out; omega
                case rel => exact ⟨(y239), (t236), (by first | rfl | (simp; done) | (simp [*]; done)), H', ⟨by have := HK1.out; omega⟩, ⟨by (with_reducible repeat (first | apply Kd.N_alloc | apply Kd.N_drewN | apply Kd.N_drew)); exact Kd.N_mono HO241.out (fun _ hk => hk.1)⟩, ⟨by repeat (first | (with_reducible first | exact HB.out | apply below_alloc | apply pw_below_drewN | apply below_drew1 | refine below_set ?_ GE230.out) | exact HB.out)⟩⟩
              · rw [if_neg c9] at H
                exact absurd H (by simp)
            · rw [if_neg c6] at H
              have c6b0 : (t221 == 1) = false := beq_eq_false_iff_ne.mpr c6
              have c6b1 : (t221 != 1) = true := bne_iff_ne.mpr c6
              have H' := Aside0.mk H
              clear H
              go_wp2_with (first | ((with_reducible refine gate_callee (f := 27) rfl ?_); refine goesL_ (some 16) rfl rfl Tryz.func27 (by kernel_rfl) rfl #[.string a0, .int .i64 x4_1] rfl (by simp only [List.map_toArray, List.map_cons, List.map_nil] <;> rfl) ?_; (with_reducible refine (tok_Next.calls k1 a0 x4_1 t221 t222 t223 t224 t227 t228 true _ ?gw A3.out).mono ?_); (case gw => exact hG.at (by with_reducible repeat first | exact HB.out | apply below_alloc | apply pw_below_drewN | apply below_drew1)); rintro e w23 ⟨v225, rfl, ho0, hb⟩; refine ⟨_, rfl, ?_⟩; have n0_ := Aside0.mk (Kd.N_elder' (by (with_reducible repeat (first | apply Kd.N_alloc | apply Kd.N_drewN | apply Kd.N_drew)); exact HO_3.out) (Kd.R_base ho0) hb); have n1_ := Aside0.mk (Kd.R_lower (Kd.R_newM (M := fun k_ => (w.heap.size ≤ k_)) ho0 (below_size (by with_reducible repeat first | exact HB.out | apply below_alloc | apply pw_below_drewN | apply below_drew1)) (fun k_ h_ => h_)) (below_size (by with_reducible repeat first | exact HB.out | apply below_alloc | apply pw_below_drewN | apply below_drew1))); have n2_ := Aside0.mk (below_step (by with_reducible repeat first | exact HB.out | apply below_alloc | apply pw_below_drewN | apply below_drew1) hb); clear HO_3; clear HB; have HO_3 := n0_; have HO226 := n1_; have HB := n2_; clear n0_ n1_ n2_; (try clear hb); (try clear hb2); (try clear hk); (try clear hi); (try clear ho0)) | ((with_reducible refine gate_dst (N := 5) rfl ?_); refine box_event ?hg (N := 5) ?hd (cs := #[.int .i64 0, .string (⟨#[]⟩ : ByteArray), .string (⟨#[]⟩ : ByteArray), .slice none 0 0, .bool false]) (t := 40) ?hr ?_; (case hd => rfl); (case hg => rfl); (case hr => first | (go_simp; done) | (go_simp; rfl)); intro gb230 hg w24 hbox hb; have n0_ := Aside0.mk (Kd.N_below (Kd.N_elderB (by (with_reducible repeat (first | apply Kd.N_alloc | apply Kd.N_drewN | apply Kd.N_drew)); exact HO_3.out) gb230 (Nat.le_of_eq hg.symm)) hb); have n1_ := Aside0.mk (Kd.R_below (by (with_reducible repeat (first | apply Kd.R_alloc | apply Kd.R_drewN | apply Kd.R_drew)); exact HO226.out) hb); have n2_ := Aside0.mk (below_step (by with_reducible repeat first | exact HB.out | apply below_alloc | apply pw_below_drewN | apply below_drew1) hb); have n3_ := Aside0.mk (hbox); have n4_ := Aside0.mk ((by rw [hg]; exact (below_size (by with_reducible repeat first | exact HB.out | apply below_alloc | apply pw_below_drewN | apply below_drew1)) : w.heap.size ≤ gb230)); have n5_ := Aside0.mk ((by rw [hg]; exact (below_size (by with_reducible repeat first | exact HB.out | apply below_alloc | apply pw_below_drewN | apply below_drew1)) : w.heap.size ≤ gb230)); clear HO_3; clear HO226; clear HB; have HO_3 := n0_; have HO226 := n1_; have HB := n2_; have BK230 := n3_; have GW230 := n4_; have GE230 := n5_; clear n0_ n1_ n2_ n3_ n4_ n5_; clear hb hbox hg; have hcz25_0 : w24.cell? ⟨gb230, 0, none⟩ = some (.int .i64 0) := (blk_cell BK230.out 0).trans rfl; have hcz25_1 : w24.cell? ⟨gb230, 1, none⟩ = some (.string (⟨#[]⟩ : ByteArray)) := (blk_cell BK230.out 1).trans rfl; have hcz25_2 : w24.cell? ⟨gb230, 2, none⟩ = some (.string (⟨#[]⟩ : ByteArray)) := (blk_cell BK230.out 2).trans rfl; have hcz25_3 : w24.cell? ⟨gb230, 3, none⟩ = some (.slice none 0 0) := (blk_cell BK230.out 3).trans rfl; have hcz25_4 : w24.cell? ⟨gb230, 4, none⟩ = some (.bool false) := (blk_cell BK230.out 4).trans rfl; have hfz25_0 := blk_frozen BK230.out 0; have hfz25_1 := blk_frozen BK230.out 1; have hfz25_2 := blk_frozen BK230.out 2; have hfz25_3 := blk_frozen BK230.out 3; have hfz25_4 := blk_frozen BK230.out 4; obtain ⟨Ao26, co26, eo26⟩ := Kd.R_slice HO226.out; subst eo26) | ((with_reducible refine gate_store (t := 40) (p := 5) rfl ?_); refine store_event (t := 40) (p := 5) (v := ?vo_w27) (w1 := (((((w24.setCell ⟨gb230, 0, none⟩ (.int .i64 t221)).setCell ⟨gb230, 1, none⟩ (.string t222)).setCell ⟨gb230, 2, none⟩ (.string t223)).setCell ⟨gb230, 3, none⟩ (.slice Ao26 t224.length co26)).setCell ⟨gb230, 4, none⟩ (.bool t227))) ?hg ?ho ?hn ?hr ?_; (case ho => rfl); (case hg => rfl); (case hn => rfl); (case hr => first | (go_simp; done) | (go_simp; rfl)); intro w27 hw; have n0_ : Aside0 (Kd.N k40 40 w27 w.heap.size (fun k_ => (w.heap.size ≤ k_) ∧ some k_ ≠ (.slice Ao26 t224.length co26 : Value).ownBlock ∧ k_ ≠ gb230) u3 x3_1) := ⟨(by rw [hw]; exact (by (with_reducible repeat (first | apply Kd.N_alloc | apply Kd.N_drewN | apply Kd.N_drew)); exact Kd.N_mono (Kd.N_far (p := ⟨gb230, 4, none⟩) (Kd.N_far (p := ⟨gb230, 3, none⟩) (Kd.N_far (p := ⟨gb230, 2, none⟩) (Kd.N_far (p := ⟨gb230, 1, none⟩) (Kd.N_far (p := ⟨gb230, 0, none⟩) (Kd.N_mono HO_3.out (fun k_ hk => (⟨hk, hk.2⟩ : _ ∧ k_ ≠ gb230))) (fun _ hk => hk.2) (.int .i64 t221)) (fun _ hk => hk.2) (.string t222)) (fun _ hk => hk.2) (.string t223)) (fun _ hk => hk.2) (.slice Ao26 t224.length co26)) (fun _ hk => hk.2) (.bool t227)) (fun _ hk => ⟨hk.1.1.1, ⟨hk.1.1.2, hk.1.2⟩⟩)))⟩; have n1_ : Aside0 (Kd.R k38 38 w27 w.heap.size (fun k_ => (w.heap.size ≤ k_)) (.slice Ao26 t224.length co26) t224) := ⟨(by rw [hw]; exact (by (with_reducible repeat (first | apply Kd.R_alloc | apply Kd.R_drewN | apply Kd.R_drew)); exact Kd.R_mono (Kd.R_far (p := ⟨gb230, 4, none⟩) (Kd.R_far (p := ⟨gb230, 3, none⟩) (Kd.R_far (p := ⟨gb230, 2, none⟩) (Kd.R_far (p := ⟨gb230, 1, none⟩) (Kd.R_far (p := ⟨gb230, 0, none⟩) (Kd.R_types HO226.out BK230.out (by decide)) (fun _ hk => hk.2) (.int .i64 t221)) (fun _ hk => hk.2) (.string t222)) (fun _ hk => hk.2) (.string t223)) (fun _ hk => hk.2) (.slice Ao26 t224.length co26)) (fun _ hk => hk.2) (.bool t227)) (fun _ hk => hk.1.1)))⟩; have n2_ : Aside0 (w27.heap[gb230]? = some (.cells #[.int .i64 t221, .string t222, .string t223, .slice Ao26 t224.length co26, .bool t227] 40 (0, 0))) := ⟨(by rw [hw]; exact (by (with_reducible repeat (first | refine blk_drewN ?_ _ | refine blk_drew ?_ | refine blk_alloc ?_ _)); refine blk_put (cs := #[.int .i64 t221, .string t222, .string t223, .slice Ao26 t224.length co26, .bool false]) ?_ 4 _ rfl; (with_reducible repeat (first | refine blk_drewN ?_ _ | refine blk_drew ?_ | refine blk_alloc ?_ _)); refine blk_put (cs := #[.int .i64 t221, .string t222, .string t223, .slice none 0 0, .bool false]) ?_ 3 _ rfl; (with_reducible repeat (first | refine blk_drewN ?_ _ | refine blk_drew ?_ | refine blk_alloc ?_ _)); refine blk_put (cs := #[.int .i64 t221, .string t222, .string (⟨#[]⟩ : ByteArray), .slice none 0 0, .bool false]) ?_ 2 _ rfl; (with_reducible repeat (first | refine blk_drewN ?_ _ | refine blk_drew ?_ | refine blk_alloc ?_ _)); refine blk_put (cs := #[.int .i64 t221, .string (⟨#[]⟩ : ByteArray), .string (⟨#[]⟩ : ByteArray), .slice none 0 0, .bool false]) ?_ 1 _ rfl; (with_reducible repeat (first | refine blk_drewN ?_ _ | refine blk_drew ?_ | refine blk_alloc ?_ _)); refine blk_put (cs := #[.int .i64 0, .string (⟨#[]⟩ : ByteArray), .string (⟨#[]⟩ : ByteArray), .slice none 0 0, .bool false]) ?_ 0 _ rfl; (with_reducible repeat (first | refine blk_drewN ?_ _ | refine blk_drew ?_ | refine blk_alloc ?_ _)); exact BK230.out))⟩; have n3_ : Aside0 (Below w.heap.size w w27) := ⟨(by rw [hw]; exact (by repeat (first | (with_reducible first | exact HB.out | apply below_alloc | apply pw_below_drewN | apply below_drew1 | refine below_set ?_ GE230.out) | exact HB.out)))⟩; clear hw; clear HO_3; clear HO226; clear BK230; clear HB; have HO_3 := n0_; have HO226 := n1_; have BK230 := n2_; have HB := n3_; clear n0_ n1_ n2_ n3_; have hcz28_0 : w27.cell? ⟨gb230, 0, none⟩ = some (.int .i64 t221) := (blk_cell BK230.out 0).trans rfl; have hcz28_1 : w27.cell? ⟨gb230, 1, none⟩ = some (.string t222) := (blk_cell BK230.out 1).trans rfl; have hcz28_2 : w27.cell? ⟨gb230, 2, none⟩ = some (.string t223) := (blk_cell BK230.out 2).trans rfl; have hcz28_3 : w27.cell? ⟨gb230, 3, none⟩ = some (.slice Ao26 t224.length co26) := (blk_cell BK230.out 3).trans rfl; have hcz28_4 : w27.cell? ⟨gb230, 4, none⟩ = some (.bool t227) := (blk_cell BK230.out 4).trans rfl; have hfz28_0 := blk_frozen BK230.out 0; have hfz28_1 := blk_frozen BK230.out 1; have hfz28_2 := blk_frozen BK230.out 2; have hfz28_3 := blk_frozen BK230.out 3; have hfz28_4 := blk_frozen BK230.out 4) | ((with_reducible refine gate_builtin (b := .append) (xs := #[.tmp 23, .tmp 25]) rfl ?_); at_builtin; refine Kd.N_append k40 (w0 := w) w.heap.size rfl (.tmp 23) (.tmp 25) 26 40 (.agg #[(.int .i64 0), (.string ⟨#[]⟩), (.string ⟨#[]⟩), (.slice none 0 0), (.bool false)]) 72 rfl Tryz.underlying26 info40 rfl (by decide) (by omega) u3 x3_1 (⟨t221, t222, t223, t224, t227⟩ : S40) [.int .i64 t221, .string t222, .string t223, .slice Ao26 t224.length co26, .bool t227] (fun k_ => (w.heap.size ≤ k_) ∧ k_ ≠ gb230) (fun k_ => ((fun k_ => (w.heap.size ≤ k_) ∧ k_ ≠ gb230)) k_ ∧ some k_ ≠ (u3 : Value).ownBlock) rfl rfl ?aP (fun _ hk => hk) ?aF ?aO ?aB ?aS ?aL ?_; (case aP => exact (k40_mkF _ _ (⟨t221, t222, t223, t224, t227⟩ : S40) (Kd.R_reads' (Kd.R_mono (ok' := (fun k_ => ((fun k_ => (w.heap.size ≤ k_) ∧ k_ ≠ gb230)) k_ ∧ some k_ ≠ (u3 : Value).ownBlock)) (Kd.R_types (Kd.R_apart' (HO226.out) (Kd.N_typed HO_3.out) (by decide)) BK230.out (by decide)) (fun k_ hk => ⟨⟨hk.1.1, hk.2⟩, hk.1.2⟩))).2.1 (Kd.R_F (Kd.R_mono (ok' := (fun k_ => ((fun k_ => (w.heap.size ≤ k_) ∧ k_ ≠ gb230)) k_ ∧ some k_ ≠ (u3 : Value).ownBlock)) (Kd.R_types (Kd.R_apart' (HO226.out) (Kd.N_typed HO_3.out) (by decide)) BK230.out (by decide)) (fun k_ hk => ⟨⟨hk.1.1, hk.2⟩, hk.1.2⟩))))); (case aB => exact (by repeat (first | (with_reducible first | exact HB.out | apply below_alloc | apply pw_below_drewN | apply below_drew1 | refine below_set ?_ GE230.out) | exact HB.out))); (case aF => exact (fun k_ hk => ⟨(Nat.le_trans (below_size (by repeat (first | (with_reducible first | exact HB.out | apply below_alloc | apply pw_below_drewN | apply below_drew1 | refine below_set ?_ GE230.out) | exact HB.out))) hk), Kd.freshB (g := gb230) (o := .cells #[.int .i64 t221, .string t222, .string t223, .slice Ao26 t224.length co26, .bool t227] 40 (0, 0)) (by (with_reducible repeat (first | refine blk_drewN ?_ _ | refine blk_drew ?_ | refine blk_alloc ?_ _)); exact BK230.out) k_ hk⟩)); (case aO => exact (by (with_reducible repeat (first | apply Kd.N_alloc | apply Kd.N_drewN | apply Kd.N_drew)); exact Kd.N_mono HO_3.out (fun _ hk => ⟨hk.1, hk.2.2⟩))); (case aS => exact (below_size (by repeat (first | (with_reducible first | exact HB.out | apply below_alloc | apply pw_below_drewN | apply below_drew1 | refine below_set ?_ GE230.out) | exact HB.out)))); (case aL => have := LMc5.out; omega); intro v232 w29 ho hb hg hat; rw [← Ny231.out] at ho; have n0_ := Aside0.mk (blk_grown (g := gb230) (o := .cells #[.int .i64 t221, .string t222, .string t223, .slice Ao26 t224.length co26, .bool t227] 40 (0, 0)) (by (with_reducible repeat (first | refine blk_drewN ?_ _ | refine blk_drew ?_ | refine blk_alloc ?_ _)); exact BK230.out) hg (Kd.N_away HO_3.out (fun _ hk => hk.2.2))); have n1_ := Aside0.mk (hb); have n2_ := Aside0.mk (ho); clear BK230; clear HB; clear HO_3; clear HO226; have BK230 := n0_; have HB := n1_; have HO233 := n2_; clear n0_ n1_ n2_; clear ho hb hg hat; have hcz30_0 : w29.cell? ⟨gb230, 0, none⟩ = some (.int .i64 t221) := (blk_cell BK230.out 0).trans rfl; have hcz30_1 : w29.cell? ⟨gb230, 1, none⟩ = some (.string t222) := (blk_cell BK230.out 1).trans rfl; have hcz30_2 : w29.cell? ⟨gb230, 2, none⟩ = some (.string t223) := (blk_cell BK230.out 2).trans rfl; have hcz30_3 : w29.cell? ⟨gb230, 3, none⟩ = some (.slice Ao26 t224.length co26) := (blk_cell BK230.out 3).trans rfl; have hcz30_4 : w29.cell? ⟨gb230, 4, none⟩ = some (.bool t227) := (blk_cell BK230.out 4).trans rfl; have hfz30_0 := blk_frozen BK230.out 0; have hfz30_1 := blk_frozen BK230.out 1; have hfz30_2 := blk_frozen BK230.out 2; have hfz30_3 := blk_frozen BK230.out 3; have hfz30_4 := blk_frozen BK230.out 4))
              go_roundg k1
              case measure => have := HK1.out; omega
              case rel => exact ⟨(y231), (t228), (by first | rfl | (simp; done) | (simp [*]; done)), H', ⟨by have := HK1.out; omega⟩, ⟨by (with_reducible repeat (first | apply Kd.N_alloc | apply Kd.N_drewN | apply Kd.N_drew)); exact Kd.N_mono HO233.out (fun _ hk => hk.1)⟩, ⟨by repeat (first | (with_reducible first | exact HB.out | apply below_alloc | apply pw_below_drewN | apply below_drew1 | refine below_set ?_ GE230.out) | exact HB.out)⟩⟩
          · rw [if_neg c5] at H
            exact absurd H (by simp)
        · replace c4 := Bool.eq_false_iff.mpr c4
          subst c4
          rw [if_neg (show ¬ (false = true) by decide)] at H
          have H' := Aside0.mk H
          clear H
          go_wp2_with (first | ((with_reducible refine gate_callee (f := 27) rfl ?_); refine goesL_ (some 16) rfl rfl Tryz.func27 (by kernel_rfl) rfl #[.string a0, .int .i64 x4_1] rfl (by simp only [List.map_toArray, List.map_cons, List.map_nil] <;> rfl) ?_; (with_reducible refine (tok_Next.calls k1 a0 x4_1 t221 t222 t223 t224 t227 t228 false _ ?gw A3.out).mono ?_); (case gw => exact hG.at (by with_reducible repeat first | exact HB.out | apply below_alloc | apply pw_below_drewN | apply below_drew1)); rintro e w31 ⟨v225, rfl, ho0, hb⟩; refine ⟨_, rfl, ?_⟩; have n0_ := Aside0.mk (Kd.N_elder' (by (with_reducible repeat (first | apply Kd.N_alloc | apply Kd.N_drewN | apply Kd.N_drew)); exact HO_3.out) (Kd.R_base ho0) hb); have n1_ := Aside0.mk (Kd.R_lower (Kd.R_newM (M := fun k_ => (w.heap.size ≤ k_)) ho0 (below_size (by with_reducible repeat first | exact HB.out | apply below_alloc | apply pw_below_drewN | apply below_drew1)) (fun k_ h_ => h_)) (below_size (by with_reducible repeat first | exact HB.out | apply below_alloc | apply pw_below_drewN | apply below_drew1))); have n2_ := Aside0.mk (below_step (by with_reducible repeat first | exact HB.out | apply below_alloc | apply pw_below_drewN | apply below_drew1) hb); clear HO_3; clear HB; have HO_3 := n0_; have HO226 := n1_; have HB := n2_; clear n0_ n1_ n2_; (try clear hb); (try clear hb2); (try clear hk); (try clear hi); (try clear ho0)) | ((with_reducible refine gate_dst (N := 5) rfl ?_); refine box_event ?hg (N := 5) ?hd (cs := #[.int .i64 0, .string (⟨#[]⟩ : ByteArray), .string (⟨#[]⟩ : ByteArray), .slice none 0 0, .bool false]) (t := 40) ?hr ?_; (case hd => rfl); (case hg => rfl); (case hr => first | (go_simp; done) | (go_simp; rfl)); intro gb230 hg w32 hbox hb; have n0_ := Aside0.mk (Kd.N_below (Kd.N_elderB (by (with_reducible repeat (first | apply Kd.N_alloc | apply Kd.N_drewN | apply Kd.N_drew)); exact HO_3.out) gb230 (Nat.le_of_eq hg.symm)) hb); have n1_ := Aside0.mk (Kd.R_below (by (with_reducible repeat (first | apply Kd.R_alloc | apply Kd.R_drewN | apply Kd.R_drew)); exact HO226.out) hb); have n2_ := Aside0.mk (below_step (by with_reducible repeat first | exact HB.out | apply below_alloc | apply pw_below_drewN | apply below_drew1) hb); have n3_ := Aside0.mk (hbox); have n4_ := Aside0.mk ((by rw [hg]; exact (below_size (by with_reducible repeat first | exact HB.out | apply below_alloc | apply pw_below_drewN | apply below_drew1)) : w.heap.size ≤ gb230)); have n5_ := Aside0.mk ((by rw [hg]; exact (below_size (by with_reducible repeat first | exact HB.out | apply below_alloc | apply pw_below_drewN | apply below_drew1)) : w.heap.size ≤ gb230)); clear HO_3; clear HO226; clear HB; have HO_3 := n0_; have HO226 := n1_; have HB := n2_; have BK230 := n3_; have GW230 := n4_; have GE230 := n5_; clear n0_ n1_ n2_ n3_ n4_ n5_; clear hb hbox hg; have hcz33_0 : w32.cell? ⟨gb230, 0, none⟩ = some (.int .i64 0) := (blk_cell BK230.out 0).trans rfl; have hcz33_1 : w32.cell? ⟨gb230, 1, none⟩ = some (.string (⟨#[]⟩ : ByteArray)) := (blk_cell BK230.out 1).trans rfl; have hcz33_2 : w32.cell? ⟨gb230, 2, none⟩ = some (.string (⟨#[]⟩ : ByteArray)) := (blk_cell BK230.out 2).trans rfl; have hcz33_3 : w32.cell? ⟨gb230, 3, none⟩ = some (.slice none 0 0) := (blk_cell BK230.out 3).trans rfl; have hcz33_4 : w32.cell? ⟨gb230, 4, none⟩ = some (.bool false) := (blk_cell BK230.out 4).trans rfl; have hfz33_0 := blk_frozen BK230.out 0; have hfz33_1 := blk_frozen BK230.out 1; have hfz33_2 := blk_frozen BK230.out 2; have hfz33_3 := blk_frozen BK230.out 3; have hfz33_4 := blk_frozen BK230.out 4; obtain ⟨Ao34, co34, eo34⟩ := Kd.R_slice HO226.out; subst eo34))
          go_roundg k1
          case measure => have := HK1.out; omega
          case rel => exact ⟨(x3_1), (t228), (by first | rfl | (simp; done) | (simp [*]; done)), H', ⟨by have := HK1.out; omega⟩, ⟨by (with_reducible repeat (first | apply Kd.N_alloc | apply Kd.N_drewN | apply Kd.N_drew)); exact Kd.N_mono (Kd.N_far (p := ⟨gb230, 4, none⟩) (Kd.N_far (p := ⟨gb230, 3, none⟩) (Kd.N_far (p := ⟨gb230, 2, none⟩) (Kd.N_far (p := ⟨gb230, 1, none⟩) (Kd.N_far (p := ⟨gb230, 0, none⟩) (Kd.N_mono HO_3.out (fun k_ hk => (⟨hk, hk.2⟩ : _ ∧ k_ ≠ gb230))) (fun _ hk => hk.2) (.int .i64 t221)) (fun _ hk => hk.2) (.string t222)) (fun _ hk => hk.2) (.string t223)) (fun _ hk => hk.2) (.slice Ao34 t224.length co34)) (fun _ hk => hk.2) (.bool t227)) (fun _ hk => hk.1.1.1)⟩, ⟨by repeat (first | (with_reducible first | exact HB.out | apply below_alloc | apply pw_below_drewN | apply below_drew1 | refine below_set ?_ GE230.out) | exact HB.out)⟩⟩
      · rw [if_neg c2] at H
        have c2b0 : decide (x4_1 < (a0.size : Int)) = false := decide_eq_false c2
        clear c2
        replace H := Option.bind_eq_some_iff.mp H
        obtain ⟨t218, A350, H⟩ := H
        (try dsimp only at H)
        have A35 := Aside0.mk A350
        clear A350
        obtain rfl := Option.some.inj H
        obtain ⟨Ao36, co36, eo36⟩ := Kd.N_slice HO_3.out
        subst eo36
        go_wp2_with (first | ((with_reducible refine gate_callee (f := 30) rfl ?_); refine goesL_ (some 46) rfl rfl Tryz.func30 (by kernel_rfl) rfl #[.slice Ao36 x3_1.length co36] rfl (by simp only [List.map_toArray, List.map_cons, List.map_nil] <;> rfl) ?_; (with_reducible refine (tok_Join.calls _ _ x3_1 t218 _ ?side1 ?side2 A35.out).mono ?_); (case side1 => repeat (first | exact (Kd.N_reads' HO_3.out).2.2 | (with_reducible refine Kd.C_alloc ?_ _) | (with_reducible refine Kd.C_drewN ?_ _) | (with_reducible refine Kd.C_drew ?_))); (case side2 => exact (Kd.N_reads' HO_3.out).2.1); rintro e w37 ⟨v219, rfl, ho0, hb⟩; refine ⟨_, rfl, ?_⟩; have n0_ := Aside0.mk (Kd.N_elder' (by (with_reducible repeat (first | apply Kd.N_alloc | apply Kd.N_drewN | apply Kd.N_drew)); exact HO_3.out) (Kd.N_base ho0) hb); have n1_ := Aside0.mk (Kd.N_lower (Kd.N_mono (ok' := fun k_ => (w.heap.size ≤ k_) ∧ some k_ ≠ (.slice Ao36 x3_1.length co36 : Value).ownBlock) (jo_bound ho0) (fun k_ hk_ => ⟨(Nat.le_trans (below_size (by with_reducible repeat first | exact HB.out | apply below_alloc | apply pw_below_drewN | apply below_drew1)) hk_.2.1), (Kd.fresh' (Kd.N_lt (by (with_reducible repeat (first | apply Kd.N_alloc | apply Kd.N_drewN | apply Kd.N_drew)); exact HO_3.out)) k_ hk_.2.1)⟩)) (below_size (by with_reducible repeat first | exact HB.out | apply below_alloc | apply pw_below_drewN | apply below_drew1))); have n2_ := Aside0.mk (below_step (by with_reducible repeat first | exact HB.out | apply below_alloc | apply pw_below_drewN | apply below_drew1) hb); clear HO_3; clear HB; have HO_3 := n0_; have HO220 := n1_; have HB := n2_; clear n0_ n1_ n2_; (try clear hb); (try clear hb2); (try clear hk); (try clear hi); (try clear ho0)))
        go_ret
        exact ⟨_, by first | rfl | (simp [errW_none, errW_some] <;> rfl) | (simp [*, errW_none, errW_some] <;> rfl), by (with_reducible repeat (first | apply Kd.N_alloc | apply Kd.N_drewN | apply Kd.N_drew)); exact Kd.N_mono HO220.out (fun _ hk => hk.1), by with_reducible repeat first | exact HB.out | apply below_alloc | apply pw_below_drewN | apply below_drew1⟩
end Go.Proofs.YteccaekalcjihaaGreatDoor.PTn
set_option linter.unusedVariables false
set_option linter.unusedSimpArgs false
namespace Go.Proofs.YteccaekalcjihaaGreatDoor.PTn
open Go.RowKit Go.Lib Go.Proofs.YteccaekalcjihaaGreatDoorW.PrintWords Go.Proofs.YteccaekalcjihaaGreatDoorW.PrintLast Go.Proofs.YteccaekalcjihaaGreatDoorW.PrintMore
def tx (L : List UInt8) : ByteArray := ⟨L.toArray⟩
theorem tx_size (L : List UInt8) : (tx L).size = L.length := by simp [tx, ByteArray.size]
theorem tx_data (L : List UInt8) : (tx L).data.toList = L := rfl
theorem tx_list (L : List UInt8) : (tx L).toList = L := by rw [ByteArray.toList_eq, tx_data]
theorem tx_ex (L : List UInt8) (i j : Nat) : (tx L).extract i j = tx ((L.take j).drop i) := by
  apply ByteArray.ext
  apply Array.toList_inj.1
  simp [tx, List.extract_eq_take_drop, List.drop_take]
theorem tx_bt (L : List UInt8) (i : Nat) (h : i < L.length) : bt (tx L) (i : Int) = ((L[i]'h).toNat : Int) := by
  have h1 : i < (tx L).size := by rw [tx_size]; exact h
  have h2 : (tx L)[i]'h1 = L[i]'h := rfl
  simp [bt, h1, h2]
theorem w64i {x : Int} (h1 : -1000000000 ≤ x) (h2 : x ≤ 1000000000) : wrap64 x = x := by unfold wrap64; omega
theorem lower_tx (L : List UInt8) (h : L.length ≤ 1000000000) : sign_Lower.f (tx L) = some (tx (lowL L)) := by
  unfold sign_Lower.f
  rw [tx_size, if_pos h, tx_data]
  rfl
theorem begins_tx (L p : List UInt8) (i : Nat) (h : L.length ≤ 100000) (hp : p.length ≤ 100) (hi : i ≤ 100000) : sign_Begins.f (tx L) (i : Int) (tx p) = some (decide (i + p.length ≤ L.length) && (lowL ((L.drop i).take p.length) == p)) := by
  unfold sign_Begins.f
  rw [tx_size, tx_size, w64i (by omega) (by omega), w64i (by omega) (by omega), if_neg (by omega)]
  by_cases h1 : i + p.length ≤ L.length
  · rw [if_neg (by omega), if_neg (by omega), if_pos (by omega), if_pos (by omega), if_pos (by omega), tx_ex, lower_tx _ (by simp; omega), Option.bind_some, tx_list, tx_list]
    have e : ((i : Int) + (p.length : Int)).toNat = i + p.length := by omega
    rw [e, Int.toNat_natCast, List.drop_take, Nat.add_sub_cancel_left, decide_eq_true h1, Bool.true_and]
  · rw [decide_eq_false h1, Bool.false_and]
    by_cases h2 : (i : Int) > (L.length : Int)
    · rw [if_pos h2]
    · rw [if_neg h2, if_pos (by omega)]
theorem low60 (x : UInt8) (h : lowB x = 60) : x = 60 := by
  have h1 : ∀ n : Fin 256, lowB (UInt8.ofNat n.val) = 60 → n.val = 60 := by decide +kernel
  have h2 := h1 ⟨x.toNat, x.toNat_lt⟩ (by simpa using h)
  exact UInt8.toNat_inj.1 h2
theorem begins_no (L p : List UInt8) (i : Nat) (h : L.length ≤ 100000) (hp : p.length ≤ 90) (hi : i ≤ 100000) (hL : 60 ∉ L) : sign_Begins.f (tx L) (i : Int) (tx (60 :: p)) = some false := by
  rw [begins_tx L (60 :: p) i h (by simp; omega) hi]
  congr 1
  by_cases h1 : i + (60 :: p).length ≤ L.length
  · rw [decide_eq_true h1, Bool.true_and]
    refine beq_eq_false_iff_ne.2 fun e => ?_
    simp only [List.length_cons] at h1
    rw [List.length_cons, List.drop_eq_getElem_cons (by omega), List.take_succ_cons, lowL, List.map_cons] at e
    have := low60 _ (List.cons.inj e).1
    exact hL (this ▸ List.getElem_mem _)
  · rw [decide_eq_false h1, Bool.false_and]
theorem idx_none (c : UInt8) : ∀ (l : List UInt8) (n : Nat), c ∉ l → idxGo c l n = -1
  | [], _, _ => rfl
  | b :: l, n, h => by
    rw [idxGo, if_neg (by simp at h ⊢; exact fun e => h.1 e.symm), idx_none c l (n + 1) (fun hm => h (List.mem_cons_of_mem _ hm))]
theorem idx_some (c : UInt8) (r : List UInt8) : ∀ (l : List UInt8) (n : Nat), c ∉ l → idxGo c (l ++ c :: r) n = ((n + l.length : Nat) : Int)
  | [], n, _ => by simp [idxGo]
  | b :: l, n, h => by
    rw [List.cons_append, idxGo, if_neg (by simp at h ⊢; exact fun e => h.1 e.symm), idx_some c r l (n + 1) (fun hm => h (List.mem_cons_of_mem _ hm)), List.length_cons]
    congr 1
    omega
theorem ibyte_none (L : List UInt8) (c : Int) (h : c.toNat.toUInt8 ∉ L) : strings_IndexByte.f (tx L) c = some (-1) := by
  unfold strings_IndexByte.f
  rw [tx_data, idx_none _ _ _ h]
theorem ibyte_some (L r : List UInt8) (c : Int) (h : c.toNat.toUInt8 ∉ L) : strings_IndexByte.f (tx (L ++ c.toNat.toUInt8 :: r)) c = some (L.length : Int) := by
  unfold strings_IndexByte.f
  rw [tx_data, idx_some _ _ _ _ h, Nat.zero_add]
theorem tx_all (L : List UInt8) : (tx L).extract 0 L.length = tx L := by rw [tx_ex]; simp
theorem inside0 (L : List UInt8) : mn (mx 0 0) ((tx L).size : Int) = 0 := by
  rw [tx_size]
  unfold mn mx
  split <;> split <;> omega
theorem noname (L : List UInt8) (h : L.length ≤ 100000) (h60 : 60 ∉ L) (b : List UInt8) (hb : b.length ≤ 90) (n : Int) : nameAt (tx L) 0 (tx (60 :: b)) n = some false := by
  unfold nameAt
  rw [show (0 : Int) = ((0 : Nat) : Int) from rfl, begins_no L b 0 h hb (by omega) h60]
  rfl
theorem notag (L : List UInt8) (h : L.length ≤ 100000) (h60 : 60 ∉ L) : tag_Begins.f (tx L) 0 = some false := by
  unfold tag_Begins.f tag_place_name.f
  rw [show tagLt = tx [60] from rfl, show tagEnd = tx [60, 47] from rfl, noname L h h60 [] (by simp), noname L h h60 [47] (by simp)]
  rfl
theorem nobegin (L : List UInt8) (h : L.length ≤ 100000) (h60 : 60 ∉ L) (b : List UInt8) (hb : b.length ≤ 90) : sign_Begins.f (tx L) 0 (tx (60 :: b)) = some false := begins_no L b 0 h hb (by omega) h60
theorem nocomment (L : List UInt8) (h : L.length ≤ 100000) (h60 : 60 ∉ L) : comment_Begins.f (tx L) 0 = some false := by
  unfold comment_Begins.f
  rw [show (⟨#[60, 33]⟩ : ByteArray) = tx [60, 33] from rfl, show (⟨#[60, 63]⟩ : ByteArray) = tx [60, 63] from rfl, show (⟨#[60, 47]⟩ : ByteArray) = tx [60, 47] from rfl, nobegin L h h60 [33] (by simp), nobegin L h h60 [63] (by simp), nobegin L h h60 [47] (by simp)]
  rfl
theorem nodoctype (L : List UInt8) (h : L.length ≤ 100000) (h60 : 60 ∉ L) : doctype_Begins.f (tx L) 0 = some false := by
  unfold doctype_Begins.f
  rw [show (⟨#[60, 33, 100, 111, 99, 116, 121, 112, 101]⟩ : ByteArray) = tx [60, 33, 100, 111, 99, 116, 121, 112, 101] from rfl, nobegin L h h60 _ (by simp)]
  rfl
theorem textnext (L : List UInt8) (h : L.length ≤ 100000) (h60 : 60 ∉ L) (k : Nat) : text_Next.f (k + 1) (tx L) 0 = some (L.length : Int) := by
  unfold text_Next.f text_inside.f
  rw [Option.bind_some, inside0 L, text_Next.l0, tx_size]
  by_cases h0 : (0 : Int) < (L.length : Int)
  · rw [if_pos h0, if_pos (by omega), if_pos (by omega), Int.toNat_zero, tx_all, ibyte_none L 60 h60, Option.bind_some, if_pos (by decide)]
  · rw [if_neg h0]
theorem textread (L : List UInt8) (h : L.length ≤ 100000) (h60 : 60 ∉ L) (k : Nat) (r : ByteArray) (hr : ref_Decode.f (tx L) false = some r) : text_Read.f (k + 1) (tx L) 0 = some (r, (L.length : Int)) := by
  unfold text_Read.f text_inside.f
  rw [textnext L h h60, Option.bind_some, Option.bind_some, inside0 L, if_pos (by omega), if_pos (by omega), tx_size, if_pos (by omega), Int.toNat_zero, Int.toNat_natCast, tx_all, hr]
  rfl
theorem toknext (L : List UInt8) (h : L.length ≤ 100000) (h60 : 60 ∉ L) (k : Nat) (r : ByteArray) (h0 : 0 < L.length) (hr : ref_Decode.f (tx L) false = some r) : tok_Next.f (k + 1) (tx L) 0 = some (0, ⟨#[]⟩, r, [], false, (L.length : Int), true) := by
  unfold tok_Next.f tok_inside.f
  rw [Option.bind_some, inside0 L, notag L h h60, Option.bind_some, if_neg (by decide), nocomment L h h60, Option.bind_some, if_neg (by decide), nodoctype L h h60, Option.bind_some, if_neg (by decide), show (⟨#[60, 47, 62]⟩ : ByteArray) = tx [60, 47, 62] from rfl, nobegin L h h60 _ (by simp), Option.bind_some, if_neg (by decide), textread L h h60 k r hr, Option.bind_some, if_neg (show ¬ ((L.length : Int) = 0) by omega)]
theorem drive_text (L : List UInt8) (h : L.length ≤ 100000) (h60 : 60 ∉ L) (k : Nat) (r : ByteArray) (h0 : 0 < L.length) (h1 : 0 < r.size) (hr : ref_Decode.f (tx L) false = some r) : drive_Drive.f (k + 3) (tx L) = some [⟨0, ⟨#[]⟩, r, [], false⟩] := by
  unfold drive_Drive.f
  rw [drive_Drive.l0, tx_size, if_pos (by omega), toknext L h h60 (k + 1) r h0 hr, Option.bind_some, if_pos rfl, if_pos (show ([] : List S40).length < 1954687338268 by decide), Option.bind_some, if_neg (show ¬ ((0 : Int) = 1) by decide)]
  show drive_Drive.l0 (k + 2) (tx L) [⟨0, ⟨#[]⟩, r, [], false⟩] (L.length : Int) = _
  rw [drive_Drive.l0, tx_size, if_neg (by omega)]
  have hj : tok_Join.f [⟨0, ⟨#[]⟩, r, [], false⟩] = some [⟨0, ⟨#[]⟩, r, [], false⟩] := by
    unfold tok_Join.f
    have e0 : (r.size == 0) = false := beq_eq_false_iff_ne.2 (by omega)
    have e1 : joOk [⟨0, ⟨#[]⟩, r, [], false⟩] = true := by
      show (true && !(true && (r.size == 0))) = true
      rw [e0]
      rfl
    rw [if_pos ⟨e1, show 1 ≤ 1000000 by decide, show ((Lit.int .i64 0).wf && true) = true by decide⟩]
  rw [hj]
  rfl
end Go.Proofs.YteccaekalcjihaaGreatDoor.PTn
namespace Go.Proofs.YteccaekalcjihaaGreatDoor.PTn
open Go.RowKit Go.Proofs.YteccaekalcjihaaGreatDoorW.PrintWords Go.Proofs.YteccaekalcjihaaGreatDoorW.PrintLast Go.Proofs.YteccaekalcjihaaGreatDoorW.PrintMore
attribute [local go_sem] max2_int min2_int max_two min_two max_three min_three max_four min_four
set_option linter.unusedVariables false
set_option linter.unusedSimpArgs false
def attrs_reader_upTo.l0 : Nat → ByteArray → Int → ByteArray → Int → Option (ByteArray × ByteArray × Int)
  | 0, _, _, _, _ => none
  | k + 1, x1, x5, x1000, x1001 => if x1001 < (x1000.size : Int) then (if 0 ≤ x1001 then ((sign_Space.f (bt x1000 x1001)).bind fun t293 => (if t293 = true then (if 0 ≤ x5 then (if x5 ≤ x1001 then (if x1001 ≤ (x1000.size : Int) then (some (x1000.extract (x5 : Int).toNat (x1001 : Int).toNat, x1000, x1001)) else (none)) else (none)) else (none)) else ((strings_IndexByte.f x1 (bt x1000 x1001)).bind fun t294 => (if t294 ≥ 0 then (if 0 ≤ x5 then (if x5 ≤ x1001 then (if x1001 ≤ (x1000.size : Int) then (some (x1000.extract (x5 : Int).toNat (x1001 : Int).toNat, x1000, x1001)) else (none)) else (none)) else (none)) else (attrs_reader_upTo.l0 k x1 x5 x1000 (wrap64 (x1001 + 1))))))) else (none)) else (if 0 ≤ x5 then (if x5 ≤ x1001 then (if x1001 ≤ (x1000.size : Int) then (some (x1000.extract (x5 : Int).toNat (x1001 : Int).toNat, x1000, x1001)) else (none)) else (none)) else (none))
def attrs_reader_upTo.f (k : Nat) (s0_0 : ByteArray) (s0_1 : Int) (a1 : ByteArray) : Option (ByteArray × ByteArray × Int) := attrs_reader_upTo.l0 k a1 s0_1 s0_0 (wrap64 (s0_1 + 1))
set_option maxHeartbeats 8000000 in
set_option maxRecDepth 100000 in
theorem attrs_reader_upTo.calls (k : Nat) (g : Nat) (s0_0 : ByteArray) (s0_1 : Int) (a1 : ByteArray) (r1 : ByteArray) (r2 : ByteArray) (r3 : Int) (w0 w : World) (hI : IsS92 w0 w g s0_0 s0_1) (hB : Below w0.heap.size w0 w) (h : attrs_reader_upTo.f k s0_0 s0_1 a1 = some (r1, r2, r3)) :
    Calls Tryz.prog 61 #[.pointer (some ⟨g, 0, none⟩), .string a1] w fun e w' => e = .returned (.string r1) ∧ IsS92 w0 w' g r2 r3 ∧ Below w0.heap.size w0 w' ∧ KeepBut w w' g none := by
  have HI0 := Aside0.mk hI
  have HK := Aside0.mk (KeepBut.refl w g none)
  have HL := Aside0.mk hB.size
  clear hI
  have HW0 := Aside0.mk hB.size
  have HB := Aside0.mk hB
  clear hB
  have H : (attrs_reader_upTo.l0 k a1 s0_1 s0_0 (wrap64 (s0_1 + 1))) = some (r1, r2, r3) := h
  clear h
  have H' := Aside0.mk H
  clear H
  obtain ⟨HGz3, hgz3⟩ := HI0.out
  have hcz3_0 := cellS92_0 HGz3
  have hcz3_1 := cellS92_1 HGz3
  have hfz3_0 := blk_frozen HGz3 0
  have hfz3_1 := blk_frozen HGz3 1
  clear HGz3 hgz3
  go_enter Tryz.func61, Tryz.ntmps61
  go_wp2
  repeat (go_quiet (fail); try go_wp2)
  go_loopg [] k (fun kq w' => ∃ (x1001_1 : Int), Aside0 (attrs_reader_upTo.l0 kq a1 s0_1 s0_0 x1001_1 = some (r1, r2, r3)) ∧ Aside0 (kq ≤ k) ∧ Aside0 (IsS92 w0 w' g s0_0 x1001_1) ∧ Aside0 (KeepBut w w' g none) ∧ Aside0 (Below w0.heap.size w0 w'))
  case atStart => exact ⟨(wrap64 (s0_1 + 1)), H', ⟨Nat.le_refl _⟩, ⟨by repeat (first | (with_reducible first | exact HI0.out | apply IsS92.alloc | apply IsS92.drewN | apply IsS92.drew | apply IsS92.set_0 | apply IsS92.set_1) | exact HI0.out)⟩, ⟨by repeat (first | (with_reducible first | exact HK.out | apply KeepBut.set_ | apply keep_drewN | apply keep_drew | apply keep_alloc) | exact HK.out)⟩, ⟨by repeat (first | (with_reducible first | exact HB.out | apply below_alloc | apply pw_below_drewN | apply below_drew1 | refine below_set ?_ (IsS92.ge HI0.out)) | exact HB.out)⟩⟩
  case round =>
    clear H'
    try clear p2
    try clear hcz3_0
    try clear hcz3_1
    try clear hfz3_0
    try clear hfz3_1
    obtain ⟨x1001_1, HA, HK1, HI0, HK, HB⟩ := hrel
    cases gk with
    | zero => exact absurd HA.out (by simp [attrs_reader_upTo.l0])
    | succ k1 =>
      have H := HA.out
      clear HA
      simp only [attrs_reader_upTo.l0] at H
      by_cases c4 : x1001_1 < (s0_0.size : Int)
      · rw [if_pos c4] at H
        have c4b0 : decide (x1001_1 < (s0_0.size : Int)) = true := decide_eq_true c4
        clear c4
        by_cases c5 : 0 ≤ x1001_1
        · rw [if_pos c5] at H
          have c5b0 : decide (0 ≤ x1001_1) = true := decide_eq_true c5
          clear c5
          replace H := Option.bind_eq_some_iff.mp H
          obtain ⟨t293, A70, H⟩ := H
          (try dsimp only at H)
          have A7 := Aside0.mk A70
          clear A70
          by_cases c8 : t293 = true
          · subst c8
            rw [if_pos rfl] at H
            by_cases c9 : 0 ≤ s0_1
            · rw [if_pos c9] at H
              have c9b0 := eq_true c9
              have c9b1 : decide (0 ≤ s0_1) = true := decide_eq_true c9
              clear c9
              by_cases c10 : s0_1 ≤ x1001_1
              · rw [if_pos c10] at H
                have c10b0 := eq_true c10
                have c10b1 : decide (s0_1 ≤ x1001_1) = true := decide_eq_true c10
                clear c10
                by_cases c11 : x1001_1 ≤ (s0_0.size : Int)
                · rw [if_pos c11] at H
                  have c11b0 := eq_true c11
                  have c11b1 : decide (x1001_1 ≤ (s0_0.size : Int)) = true := decide_eq_true c11
                  clear c11
                  simp only [Option.some.injEq, Prod.mk.injEq] at H
                  obtain ⟨rfl, rfl, rfl⟩ := H
                  obtain ⟨HGz12, hgz12⟩ := HI0.out
                  have hcz12_0 := cellS92_0 HGz12
                  have hcz12_1 := cellS92_1 HGz12
                  have hfz12_0 := blk_frozen HGz12 0
                  have hfz12_1 := blk_frozen HGz12 1
                  clear HGz12 hgz12
                  have p6 : 0 ≤ (x1001_1 : Int) := of_decide_eq_true (by first | (with_reducible assumption) | assumption)
                  have q6 : x1001_1 < (s0_0.size : Int) := of_decide_eq_true (by first | (with_reducible assumption) | assumption)
                  have hx6 := bt_at s0_0 x1001_1
                  replace p6 := eq_true p6
                  replace q6 := eq_true q6
                  go_wp2_with (first | (go_at_call 112; (with_reducible refine (sign_Space.calls (bt s0_0 x1001_1) true _ A7.out).mono ?_); rintro e w' ⟨rfl, ⟨nd, rfl⟩⟩; (try first | exact ⟨rfl, _, World.drewN_drewN _ _ _⟩ | exact ⟨rfl, _, Eq.trans (World.drewN_drewN _ _ _) (congrArg (World.drewN _) (Nat.add_assoc _ _ _))⟩)))
                  repeat (go_quiet (first | (go_at_call 112; (with_reducible refine (sign_Space.calls (bt s0_0 x1001_1) true _ A7.out).mono ?_); rintro e w' ⟨rfl, ⟨nd, rfl⟩⟩; (try first | exact ⟨rfl, _, World.drewN_drewN _ _ _⟩ | exact ⟨rfl, _, Eq.trans (World.drewN_drewN _ _ _) (congrArg (World.drewN _) (Nat.add_assoc _ _ _))⟩))); try go_wp2_with (first | (go_at_call 112; (with_reducible refine (sign_Space.calls (bt s0_0 x1001_1) true _ A7.out).mono ?_); rintro e w' ⟨rfl, ⟨nd, rfl⟩⟩; (try first | exact ⟨rfl, _, World.drewN_drewN _ _ _⟩ | exact ⟨rfl, _, Eq.trans (World.drewN_drewN _ _ _) (congrArg (World.drewN _) (Nat.add_assoc _ _ _))⟩))))
                  go_ret
                  exact ⟨by first | rfl | (simp [*] <;> rfl), by repeat (first | (with_reducible first | exact HI0.out | apply IsS92.alloc | apply IsS92.drewN | apply IsS92.drew | apply IsS92.set_0 | apply IsS92.set_1) | exact HI0.out), by repeat (first | (with_reducible first | exact HB.out | apply below_alloc | apply pw_below_drewN | apply below_drew1 | refine below_set ?_ (IsS92.ge HI0.out)) | exact HB.out), by repeat (first | (with_reducible first | exact HK.out | apply KeepBut.set_ | apply keep_drewN | apply keep_drew | apply keep_alloc) | exact HK.out)⟩
                · rw [if_neg c11] at H
                  exact absurd H (by simp)
              · rw [if_neg c10] at H
                exact absurd H (by simp)
            · rw [if_neg c9] at H
              exact absurd H (by simp)
          · replace c8 := Bool.eq_false_iff.mpr c8
            subst c8
            rw [if_neg (show ¬ (false = true) by decide)] at H
            replace H := Option.bind_eq_some_iff.mp H
            obtain ⟨t294, A130, H⟩ := H
            (try dsimp only at H)
            have A13 := Aside0.mk A130
            clear A130
            by_cases c14 : t294 ≥ 0
            · rw [if_pos c14] at H
              have c14b0 : decide (0 ≤ t294) = true := decide_eq_true c14
              clear c14
              by_cases c15 : 0 ≤ s0_1
              · rw [if_pos c15] at H
                have c15b0 := eq_true c15
                have c15b1 : decide (0 ≤ s0_1) = true := decide_eq_true c15
                clear c15
                by_cases c16 : s0_1 ≤ x1001_1
                · rw [if_pos c16] at H
                  have c16b0 := eq_true c16
                  have c16b1 : decide (s0_1 ≤ x1001_1) = true := decide_eq_true c16
                  clear c16
                  by_cases c17 : x1001_1 ≤ (s0_0.size : Int)
                  · rw [if_pos c17] at H
                    have c17b0 := eq_true c17
                    have c17b1 : decide (x1001_1 ≤ (s0_0.size : Int)) = true := decide_eq_true c17
                    clear c17
                    simp only [Option.some.injEq, Prod.mk.injEq] at H
                    obtain ⟨rfl, rfl, rfl⟩ := H
                    obtain ⟨HGz18, hgz18⟩ := HI0.out
                    have hcz18_0 := cellS92_0 HGz18
                    have hcz18_1 := cellS92_1 HGz18
                    have hfz18_0 := blk_frozen HGz18 0
                    have hfz18_1 := blk_frozen HGz18 1
                    clear HGz18 hgz18
                    have p6 : 0 ≤ (x1001_1 : Int) := of_decide_eq_true (by first | (with_reducible assumption) | assumption)
                    have q6 : x1001_1 < (s0_0.size : Int) := of_decide_eq_true (by first | (with_reducible assumption) | assumption)
                    have hx6 := bt_at s0_0 x1001_1
                    replace p6 := eq_true p6
                    replace q6 := eq_true q6
                    go_wp2_with (first | (go_at_call 112; (with_reducible refine (sign_Space.calls (bt s0_0 x1001_1) false _ A7.out).mono ?_); rintro e w' ⟨rfl, ⟨nd, rfl⟩⟩; (try first | exact ⟨rfl, _, World.drewN_drewN _ _ _⟩ | exact ⟨rfl, _, Eq.trans (World.drewN_drewN _ _ _) (congrArg (World.drewN _) (Nat.add_assoc _ _ _))⟩)) | (go_at_call 65; (with_reducible refine (strings_IndexByte.calls a1 (bt s0_0 x1001_1) t294 _ A13.out).mono ?_); rintro e w' ⟨rfl, ⟨nd, rfl⟩⟩; (try first | exact ⟨rfl, _, World.drewN_drewN _ _ _⟩ | exact ⟨rfl, _, Eq.trans (World.drewN_drewN _ _ _) (congrArg (World.drewN _) (Nat.add_assoc _ _ _))⟩)))
                    repeat (go_quiet (first | (go_at_call 112; (with_reducible refine (sign_Space.calls (bt s0_0 x1001_1) false _ A7.out).mono ?_); rintro e w' ⟨rfl, ⟨nd, rfl⟩⟩; (try first | exact ⟨rfl, _, World.drewN_drewN _ _ _⟩ | exact ⟨rfl, _, Eq.trans (World.drewN_drewN _ _ _) (congrArg (World.drewN _) (Nat.add_assoc _ _ _))⟩)) | (go_at_call 65; (with_reducible refine (strings_IndexByte.calls a1 (bt s0_0 x1001_1) t294 _ A13.out).mono ?_); rintro e w' ⟨rfl, ⟨nd, rfl⟩⟩; (try first | exact ⟨rfl, _, World.drewN_drewN _ _ _⟩ | exact ⟨rfl, _, Eq.trans (World.drewN_drewN _ _ _) (congrArg (World.drewN _) (Nat.add_assoc _ _ _))⟩))); try go_wp2_with (first | (go_at_call 112; (with_reducible refine (sign_Space.calls (bt s0_0 x1001_1) false _ A7.out).mono ?_); rintro e w' ⟨rfl, ⟨nd, rfl⟩⟩; (try first | exact ⟨rfl, _, World.drewN_drewN _ _ _⟩ | exact ⟨rfl, _, Eq.trans (World.drewN_drewN _ _ _) (congrArg (World.drewN _) (Nat.add_assoc _ _ _))⟩)) | (go_at_call 65; (with_reducible refine (strings_IndexByte.calls a1 (bt s0_0 x1001_1) t294 _ A13.out).mono ?_); rintro e w' ⟨rfl, ⟨nd, rfl⟩⟩; (try first | exact ⟨rfl, _, World.drewN_drewN _ _ _⟩ | exact ⟨rfl, _, Eq.trans (World.drewN_drewN _ _ _) (congrArg (World.drewN _) (Nat.add_assoc _ _ _))⟩))))
                    go_ret
                    exact ⟨by first | rfl | (simp [*] <;> rfl), by repeat (first | (with_reducible first | exact HI0.out | apply IsS92.alloc | apply IsS92.drewN | apply IsS92.drew | apply IsS92.set_0 | apply IsS92.set_1) | exact HI0.out), by repeat (first | (with_reducible first | exact HB.out | apply below_alloc | apply pw_below_drewN | apply below_drew1 | refine below_set ?_ (IsS92.ge HI0.out)) | exact HB.out), by repeat (first | (with_reducible first | exact HK.out | apply KeepBut.set_ | apply keep_drewN | apply keep_drew | apply keep_alloc) | exact HK.out)⟩
                  · rw [if_neg c17] at H
                    exact absurd H (by simp)
                · rw [if_neg c16] at H
                  exact absurd H (by simp)
              · rw [if_neg c15] at H
                exact absurd H (by simp)
            · rw [if_neg c14] at H
              have c14b0 : decide (0 ≤ t294) = false := decide_eq_false c14
              clear c14
              have H' := Aside0.mk H
              clear H
              obtain ⟨HGz19, hgz19⟩ := HI0.out
              have hcz19_0 := cellS92_0 HGz19
              have hcz19_1 := cellS92_1 HGz19
              have hfz19_0 := blk_frozen HGz19 0
              have hfz19_1 := blk_frozen HGz19 1
              clear HGz19 hgz19
              have p6 : 0 ≤ (x1001_1 : Int) := of_decide_eq_true (by first | (with_reducible assumption) | assumption)
              have q6 : x1001_1 < (s0_0.size : Int) := of_decide_eq_true (by first | (with_reducible assumption) | assumption)
              have hx6 := bt_at s0_0 x1001_1
              replace p6 := eq_true p6
              replace q6 := eq_true q6
              go_wp2_with (first | (go_at_call 112; (with_reducible refine (sign_Space.calls (bt s0_0 x1001_1) false _ A7.out).mono ?_); rintro e w' ⟨rfl, ⟨nd, rfl⟩⟩; (try first | exact ⟨rfl, _, World.drewN_drewN _ _ _⟩ | exact ⟨rfl, _, Eq.trans (World.drewN_drewN _ _ _) (congrArg (World.drewN _) (Nat.add_assoc _ _ _))⟩)) | (go_at_call 65; (with_reducible refine (strings_IndexByte.calls a1 (bt s0_0 x1001_1) t294 _ A13.out).mono ?_); rintro e w' ⟨rfl, ⟨nd, rfl⟩⟩; (try first | exact ⟨rfl, _, World.drewN_drewN _ _ _⟩ | exact ⟨rfl, _, Eq.trans (World.drewN_drewN _ _ _) (congrArg (World.drewN _) (Nat.add_assoc _ _ _))⟩)))
              repeat (go_quiet (first | (go_at_call 112; (with_reducible refine (sign_Space.calls (bt s0_0 x1001_1) false _ A7.out).mono ?_); rintro e w' ⟨rfl, ⟨nd, rfl⟩⟩; (try first | exact ⟨rfl, _, World.drewN_drewN _ _ _⟩ | exact ⟨rfl, _, Eq.trans (World.drewN_drewN _ _ _) (congrArg (World.drewN _) (Nat.add_assoc _ _ _))⟩)) | (go_at_call 65; (with_reducible refine (strings_IndexByte.calls a1 (bt s0_0 x1001_1) t294 _ A13.out).mono ?_); rintro e w' ⟨rfl, ⟨nd, rfl⟩⟩; (try first | exact ⟨rfl, _, World.drewN_drewN _ _ _⟩ | exact ⟨rfl, _, Eq.trans (World.drewN_drewN _ _ _) (congrArg (World.drewN _) (Nat.add_assoc _ _ _))⟩))); try go_wp2_with (first | (go_at_call 112; (with_reducible refine (sign_Space.calls (bt s0_0 x1001_1) false _ A7.out).mono ?_); rintro e w' ⟨rfl, ⟨nd, rfl⟩⟩; (try first | exact ⟨rfl, _, World.drewN_drewN _ _ _⟩ | exact ⟨rfl, _, Eq.trans (World.drewN_drewN _ _ _) (congrArg (World.drewN _) (Nat.add_assoc _ _ _))⟩)) | (go_at_call 65; (with_reducible refine (strings_IndexByte.calls a1 (bt s0_0 x1001_1) t294 _ A13.out).mono ?_); rintro e w' ⟨rfl, ⟨nd, rfl⟩⟩; (try first | exact ⟨rfl, _, World.drewN_drewN _ _ _⟩ | exact ⟨rfl, _, Eq.trans (World.drewN_drewN _ _ _) (congrArg (World.drewN _) (Nat.add_assoc _ _ _))⟩))))
              go_roundg k1
              case measure => have := HK1.out; omega
              case rel => exact ⟨(wrap64 (x1001_1 + 1)), H', ⟨by have := HK1.out; omega⟩, ⟨by repeat (first | (with_reducible first | exact HI0.out | apply IsS92.alloc | apply IsS92.drewN | apply IsS92.drew | apply IsS92.set_0 | apply IsS92.set_1) | exact HI0.out)⟩, ⟨by repeat (first | (with_reducible first | exact HK.out | apply KeepBut.set_ | apply keep_drewN | apply keep_drew | apply keep_alloc) | exact HK.out)⟩, ⟨by repeat (first | (with_reducible first | exact HB.out | apply below_alloc | apply pw_below_drewN | apply below_drew1 | refine below_set ?_ (IsS92.ge HI0.out)) | exact HB.out)⟩⟩
        · rw [if_neg c5] at H
          exact absurd H (by simp)
      · rw [if_neg c4] at H
        have c4b0 : decide (x1001_1 < (s0_0.size : Int)) = false := decide_eq_false c4
        clear c4
        by_cases c20 : 0 ≤ s0_1
        · rw [if_pos c20] at H
          have c20b0 := eq_true c20
          have c20b1 : decide (0 ≤ s0_1) = true := decide_eq_true c20
          clear c20
          by_cases c21 : s0_1 ≤ x1001_1
          · rw [if_pos c21] at H
            have c21b0 := eq_true c21
            have c21b1 : decide (s0_1 ≤ x1001_1) = true := decide_eq_true c21
            clear c21
            by_cases c22 : x1001_1 ≤ (s0_0.size : Int)
            · rw [if_pos c22] at H
              have c22b0 := eq_true c22
              have c22b1 : decide (x1001_1 ≤ (s0_0.size : Int)) = true := decide_eq_true c22
              clear c22
              simp only [Option.some.injEq, Prod.mk.injEq] at H
              obtain ⟨rfl, rfl, rfl⟩ := H
              obtain ⟨HGz23, hgz23⟩ := HI0.out
              have hcz23_0 := cellS92_0 HGz23
              have hcz23_1 := cellS92_1 HGz23
              have hfz23_0 := blk_frozen HGz23 0
              have hfz23_1 := blk_frozen HGz23 1
              clear HGz23 hgz23
              go_wp2
              repeat (go_quiet (fail); try go_wp2)
              go_ret
              exact ⟨by first | rfl | (simp [*] <;> rfl), by repeat (first | (with_reducible first | exact HI0.out | apply IsS92.alloc | apply IsS92.drewN | apply IsS92.drew | apply IsS92.set_0 | apply IsS92.set_1) | exact HI0.out), by repeat (first | (with_reducible first | exact HB.out | apply below_alloc | apply pw_below_drewN | apply below_drew1 | refine below_set ?_ (IsS92.ge HI0.out)) | exact HB.out), by repeat (first | (with_reducible first | exact HK.out | apply KeepBut.set_ | apply keep_drewN | apply keep_drew | apply keep_alloc) | exact HK.out)⟩
            · rw [if_neg c22] at H
              exact absurd H (by simp)
          · rw [if_neg c21] at H
            exact absurd H (by simp)
        · rw [if_neg c20] at H
          exact absurd H (by simp)
end Go.Proofs.YteccaekalcjihaaGreatDoor.PTn
namespace Go.Proofs.YteccaekalcjihaaGreatDoor.PTn
open Go.RowKit Go.Proofs.YteccaekalcjihaaGreatDoorW.PrintWords Go.Proofs.YteccaekalcjihaaGreatDoorW.PrintLast Go.Proofs.YteccaekalcjihaaGreatDoorW.PrintMore
attribute [local go_sem] max2_int min2_int max_two min_two max_three min_three max_four min_four
set_option linter.unusedVariables false
set_option linter.unusedSimpArgs false
def attrs_reader_quoted.f (s0_0 : ByteArray) (s0_1 : Int) : Option (ByteArray × Bool × ByteArray × Int) := if 0 ≤ s0_1 then (if s0_1 < (s0_0.size : Int) then (if 0 ≤ (wrap64 (s0_1 + 1)) then (if (wrap64 (s0_1 + 1)) ≤ (s0_0.size : Int) then ((strings_IndexByte.f (s0_0.extract ((wrap64 (s0_1 + 1)) : Int).toNat s0_0.size) (bt s0_0 s0_1)).bind fun t295 => (if t295 < 0 then (some ((⟨#[]⟩ : ByteArray), false, s0_0, wrap64 (s0_1 + 1))) else (if (wrap64 (s0_1 + 1)) ≤ (wrap64 ((wrap64 (s0_1 + 1)) + t295)) then (if (wrap64 ((wrap64 (s0_1 + 1)) + t295)) ≤ (s0_0.size : Int) then (some (s0_0.extract ((wrap64 (s0_1 + 1)) : Int).toNat ((wrap64 ((wrap64 (s0_1 + 1)) + t295)) : Int).toNat, true, s0_0, wrap64 ((wrap64 (s0_1 + 1)) + (wrap64 (t295 + 1))))) else (none)) else (none)))) else (none)) else (none)) else (none)) else (none)
set_option maxHeartbeats 8000000 in
set_option maxRecDepth 100000 in
theorem attrs_reader_quoted.calls (g : Nat) (s0_0 : ByteArray) (s0_1 : Int) (r1 : ByteArray) (r2 : Bool) (r3 : ByteArray) (r4 : Int) (w0 w : World) (hI : IsS92 w0 w g s0_0 s0_1) (hB : Below w0.heap.size w0 w) (h : attrs_reader_quoted.f s0_0 s0_1 = some (r1, r2, r3, r4)) :
    Calls Tryz.prog 115 #[.pointer (some ⟨g, 0, none⟩)] w fun e w' => e = .returned (.tuple #[.string r1, .bool r2]) ∧ IsS92 w0 w' g r3 r4 ∧ Below w0.heap.size w0 w' ∧ KeepBut w w' g none := by
  have HI0 := Aside0.mk hI
  have HK := Aside0.mk (KeepBut.refl w g none)
  have HL := Aside0.mk hB.size
  clear hI
  have HW0 := Aside0.mk hB.size
  have HB := Aside0.mk hB
  clear hB
  have H : (if 0 ≤ s0_1 then (if s0_1 < (s0_0.size : Int) then (if 0 ≤ (wrap64 (s0_1 + 1)) then (if (wrap64 (s0_1 + 1)) ≤ (s0_0.size : Int) then ((strings_IndexByte.f (s0_0.extract ((wrap64 (s0_1 + 1)) : Int).toNat s0_0.size) (bt s0_0 s0_1)).bind fun t295 => (if t295 < 0 then (some ((⟨#[]⟩ : ByteArray), false, s0_0, wrap64 (s0_1 + 1))) else (if (wrap64 (s0_1 + 1)) ≤ (wrap64 ((wrap64 (s0_1 + 1)) + t295)) then (if (wrap64 ((wrap64 (s0_1 + 1)) + t295)) ≤ (s0_0.size : Int) then (some (s0_0.extract ((wrap64 (s0_1 + 1)) : Int).toNat ((wrap64 ((wrap64 (s0_1 + 1)) + t295)) : Int).toNat, true, s0_0, wrap64 ((wrap64 (s0_1 + 1)) + (wrap64 (t295 + 1))))) else (none)) else (none)))) else (none)) else (none)) else (none)) else (none)) = some (r1, r2, r3, r4) := h
  clear h
  by_cases c2 : 0 ≤ s0_1
  · rw [if_pos c2] at H
    have c2b0 : decide (0 ≤ s0_1) = true := decide_eq_true c2
    clear c2
    by_cases c3 : s0_1 < (s0_0.size : Int)
    · rw [if_pos c3] at H
      have c3b0 : decide (s0_1 < (s0_0.size : Int)) = true := decide_eq_true c3
      clear c3
      obtain ⟨ji5, hji5⟩ : ∃ j_ : Int, (wrap64 (s0_1 + 1)) = j_ := ⟨_, rfl⟩
      replace H : (if 0 ≤ (ji5) then (if (ji5) ≤ (s0_0.size : Int) then ((strings_IndexByte.f (s0_0.extract ((ji5) : Int).toNat s0_0.size) (bt s0_0 s0_1)).bind fun t295 => (if t295 < 0 then (some ((⟨#[]⟩ : ByteArray), false, s0_0, ji5)) else (if (ji5) ≤ (wrap64 ((ji5) + t295)) then (if (wrap64 ((ji5) + t295)) ≤ (s0_0.size : Int) then (some (s0_0.extract ((ji5) : Int).toNat ((wrap64 ((ji5) + t295)) : Int).toNat, true, s0_0, wrap64 ((ji5) + (wrap64 (t295 + 1))))) else (none)) else (none)))) else (none)) else (none)) = some (r1, r2, r3, r4) := by first | (rw [hji5] at H; exact H) | (simp only [hji5] at H ⊢; exact H)
      have hji5w : (IntKind.i64.wrap (s0_1 + 1)) = ji5 := (i64_w _).trans hji5
      by_cases c6 : 0 ≤ (ji5)
      · rw [if_pos c6] at H
        have c6b0 := eq_true c6
        have c6b1 : decide (0 ≤ (ji5)) = true := decide_eq_true c6
        clear c6
        by_cases c7 : (ji5) ≤ (s0_0.size : Int)
        · rw [if_pos c7] at H
          have c7b0 := eq_true c7
          have c7b1 : decide ((ji5) ≤ (s0_0.size : Int)) = true := decide_eq_true c7
          clear c7
          replace H := Option.bind_eq_some_iff.mp H
          obtain ⟨t295, A80, H⟩ := H
          (try dsimp only at H)
          have A8 := Aside0.mk A80
          clear A80
          by_cases c9 : t295 < 0
          · rw [if_pos c9] at H
            have c9b0 : decide (t295 < 0) = true := decide_eq_true c9
            clear c9
            simp only [Option.some.injEq, Prod.mk.injEq] at H
            obtain ⟨rfl, rfl, rfl, rfl⟩ := H
            obtain ⟨HGz10, hgz10⟩ := HI0.out
            have hcz10_0 := cellS92_0 HGz10
            have hcz10_1 := cellS92_1 HGz10
            have hfz10_0 := blk_frozen HGz10 0
            have hfz10_1 := blk_frozen HGz10 1
            clear HGz10 hgz10
            have p4 : 0 ≤ (s0_1 : Int) := of_decide_eq_true (by first | (with_reducible assumption) | assumption)
            have q4 : s0_1 < (s0_0.size : Int) := of_decide_eq_true (by first | (with_reducible assumption) | assumption)
            have hx4 := bt_at s0_0 s0_1
            replace p4 := eq_true p4
            replace q4 := eq_true q4
            go_enter Tryz.func115, Tryz.ntmps115
            go_wp2_with (first | (go_at_call 65; (with_reducible refine (strings_IndexByte.calls (s0_0.extract ((ji5) : Int).toNat s0_0.size) (bt s0_0 s0_1) t295 _ A8.out).mono ?_); rintro e w' ⟨rfl, ⟨nd, rfl⟩⟩; (try first | exact ⟨rfl, _, World.drewN_drewN _ _ _⟩ | exact ⟨rfl, _, Eq.trans (World.drewN_drewN _ _ _) (congrArg (World.drewN _) (Nat.add_assoc _ _ _))⟩)))
            repeat (go_quiet (first | (go_at_call 65; (with_reducible refine (strings_IndexByte.calls (s0_0.extract ((ji5) : Int).toNat s0_0.size) (bt s0_0 s0_1) t295 _ A8.out).mono ?_); rintro e w' ⟨rfl, ⟨nd, rfl⟩⟩; (try first | exact ⟨rfl, _, World.drewN_drewN _ _ _⟩ | exact ⟨rfl, _, Eq.trans (World.drewN_drewN _ _ _) (congrArg (World.drewN _) (Nat.add_assoc _ _ _))⟩))); try go_wp2_with (first | (go_at_call 65; (with_reducible refine (strings_IndexByte.calls (s0_0.extract ((ji5) : Int).toNat s0_0.size) (bt s0_0 s0_1) t295 _ A8.out).mono ?_); rintro e w' ⟨rfl, ⟨nd, rfl⟩⟩; (try first | exact ⟨rfl, _, World.drewN_drewN _ _ _⟩ | exact ⟨rfl, _, Eq.trans (World.drewN_drewN _ _ _) (congrArg (World.drewN _) (Nat.add_assoc _ _ _))⟩))))
            go_ret2
            exact ⟨by first | rfl | (simp [errW_none, errW_some] <;> rfl) | (simp only [← hji5]; first | rfl | (simp [errW_none, errW_some] <;> rfl)) | (simp [*, errW_none, errW_some] <;> rfl), by repeat (first | (with_reducible first | exact HI0.out | apply IsS92.alloc | apply IsS92.drewN | apply IsS92.drew | apply IsS92.set_0 | apply IsS92.set_1) | exact HI0.out), by repeat (first | (with_reducible first | exact HB.out | apply below_alloc | apply pw_below_drewN | apply below_drew1 | refine below_set ?_ (IsS92.ge HI0.out)) | exact HB.out), by repeat (first | (with_reducible first | exact HK.out | apply KeepBut.set_ | apply keep_drewN | apply keep_drew | apply keep_alloc) | exact HK.out)⟩
          · rw [if_neg c9] at H
            have c9b0 : decide (t295 < 0) = false := decide_eq_false c9
            clear c9
            have c11b0 := eq_true (of_decide_eq_true (by first | (with_reducible assumption) | assumption) : 0 ≤ (ji5))
            by_cases c12 : (ji5) ≤ (wrap64 ((ji5) + t295))
            · rw [if_pos c12] at H
              have c12b0 := eq_true c12
              have c12b1 : decide ((ji5) ≤ (wrap64 ((ji5) + t295))) = true := decide_eq_true c12
              by_cases c13 : (wrap64 ((ji5) + t295)) ≤ (s0_0.size : Int)
              · rw [if_pos c13] at H
                have c13b0 := eq_true c13
                have c13b1 : decide ((wrap64 ((ji5) + t295)) ≤ (s0_0.size : Int)) = true := decide_eq_true c13
                simp only [Option.some.injEq, Prod.mk.injEq] at H
                obtain ⟨rfl, rfl, rfl, rfl⟩ := H
                obtain ⟨HGz14, hgz14⟩ := HI0.out
                have hcz14_0 := cellS92_0 HGz14
                have hcz14_1 := cellS92_1 HGz14
                have hfz14_0 := blk_frozen HGz14 0
                have hfz14_1 := blk_frozen HGz14 1
                clear HGz14 hgz14
                have p4 : 0 ≤ (s0_1 : Int) := of_decide_eq_true (by first | (with_reducible assumption) | assumption)
                have q4 : s0_1 < (s0_0.size : Int) := of_decide_eq_true (by first | (with_reducible assumption) | assumption)
                have hx4 := bt_at s0_0 s0_1
                replace p4 := eq_true p4
                replace q4 := eq_true q4
                go_enter Tryz.func115, Tryz.ntmps115
                go_wp2_with (first | (go_at_call 65; (with_reducible refine (strings_IndexByte.calls (s0_0.extract ((ji5) : Int).toNat s0_0.size) (bt s0_0 s0_1) t295 _ A8.out).mono ?_); rintro e w' ⟨rfl, ⟨nd, rfl⟩⟩; (try first | exact ⟨rfl, _, World.drewN_drewN _ _ _⟩ | exact ⟨rfl, _, Eq.trans (World.drewN_drewN _ _ _) (congrArg (World.drewN _) (Nat.add_assoc _ _ _))⟩)))
                repeat (go_quiet (first | (go_at_call 65; (with_reducible refine (strings_IndexByte.calls (s0_0.extract ((ji5) : Int).toNat s0_0.size) (bt s0_0 s0_1) t295 _ A8.out).mono ?_); rintro e w' ⟨rfl, ⟨nd, rfl⟩⟩; (try first | exact ⟨rfl, _, World.drewN_drewN _ _ _⟩ | exact ⟨rfl, _, Eq.trans (World.drewN_drewN _ _ _) (congrArg (World.drewN _) (Nat.add_assoc _ _ _))⟩))); try go_wp2_with (first | (go_at_call 65; (with_reducible refine (strings_IndexByte.calls (s0_0.extract ((ji5) : Int).toNat s0_0.size) (bt s0_0 s0_1) t295 _ A8.out).mono ?_); rintro e w' ⟨rfl, ⟨nd, rfl⟩⟩; (try first | exact ⟨rfl, _, World.drewN_drewN _ _ _⟩ | exact ⟨rfl, _, Eq.trans (World.drewN_drewN _ _ _) (congrArg (World.drewN _) (Nat.add_assoc _ _ _))⟩))))
                go_ret2
                exact ⟨by first | rfl | (simp [errW_none, errW_some] <;> rfl) | (simp only [← hji5]; first | rfl | (simp [errW_none, errW_some] <;> rfl)) | (simp [*, errW_none, errW_some] <;> rfl), by repeat (first | (with_reducible first | exact HI0.out | apply IsS92.alloc | apply IsS92.drewN | apply IsS92.drew | apply IsS92.set_0 | apply IsS92.set_1) | exact HI0.out), by repeat (first | (with_reducible first | exact HB.out | apply below_alloc | apply pw_below_drewN | apply below_drew1 | refine below_set ?_ (IsS92.ge HI0.out)) | exact HB.out), by repeat (first | (with_reducible first | exact HK.out | apply KeepBut.set_ | apply keep_drewN | apply keep_drew | apply keep_alloc) | exact HK.out)⟩
              · rw [if_neg c13] at H
                exact absurd H (by simp)
            · rw [if_neg c12] at H
              exact absurd H (by simp)
        · rw [if_neg c7] at H
          exact absurd H (by simp)
      · rw [if_neg c6] at H
        exact absurd H (by simp)
    · rw [if_neg c3] at H
      exact absurd H (by simp)
  · rw [if_neg c2] at H
    exact absurd H (by simp)
end Go.Proofs.YteccaekalcjihaaGreatDoor.PTn
