/- Several texts of this claim, laid together into one file. -/
import Derived.Test.YtaejicolhliecaaMPreA
import Derived.Test.YtaejicolhliecaaMRendAt
import Derived.Deep.Slices
import Derived.Deep.AppendLies
set_option linter.unusedSimpArgs false
set_option linter.unusedVariables false
/- Written by a program of this session out of the translation, for this claim: a part of the walk of what the law calls, or the row of the law. -/
namespace Go.Proofs.Ytaejicolhliecaa.PRe
open Go.RowKit Go.Proofs.YtaejicolhliecaaW.PrintWords Go.Proofs.YtaejicolhliecaaW.PrintLast Go.Proofs.YtaejicolhliecaaW.PrintMore
attribute [local go_sem] max2_int min2_int max_two min_two max_three min_three max_four min_four   -- for this text's walks alone
set_option linter.unusedVariables false
set_option linter.unusedSimpArgs false

/-! ### flaillaw19_awake: function 25 -/
def flaillaw19_awake.f  : Option (Bool) := (render_Render.f (([(⟨1, (⟨#[112]⟩ : ByteArray), (⟨#[]⟩ : ByteArray), ([] : List (S51)), false⟩ : S47), (⟨0, (⟨#[]⟩ : ByteArray), (⟨#[97]⟩ : ByteArray), ([] : List (S51)), false⟩ : S47), (⟨2, (⟨#[112]⟩ : ByteArray), (⟨#[]⟩ : ByteArray), ([] : List (S51)), false⟩ : S47), (⟨0, (⟨#[]⟩ : ByteArray), (⟨#[98]⟩ : ByteArray), ([] : List (S51)), false⟩ : S47)] : List (S47)))).bind fun t130 => (if t130.toList = ([97, 10, 10, 98] : List UInt8) then ((render_Render.f (([(⟨1, (⟨#[115, 99, 114, 105, 112, 116]⟩ : ByteArray), (⟨#[]⟩ : ByteArray), ([] : List (S51)), false⟩ : S47), (⟨0, (⟨#[]⟩ : ByteArray), (⟨#[120]⟩ : ByteArray), ([] : List (S51)), false⟩ : S47), (⟨2, (⟨#[115, 99, 114, 105, 112, 116]⟩ : ByteArray), (⟨#[]⟩ : ByteArray), ([] : List (S51)), false⟩ : S47), (⟨0, (⟨#[]⟩ : ByteArray), (⟨#[121]⟩ : ByteArray), ([] : List (S51)), false⟩ : S47)] : List (S47)))).bind fun t131 => (if t131.toList = ([121] : List UInt8) then ((render_Render.f ([] : List (S47))).bind fun t132 => (some (t132.toList == ([] : List UInt8)))) else (some false))) else (some false))
set_option maxHeartbeats 8000000 in
set_option maxRecDepth 100000 in
theorem flaillaw19_awake.calls  (r : Bool) (w : World) (h : flaillaw19_awake.f  = some r) :
    Calls Try.prog 25 #[] w fun e w' => e = .returned (.bool r) ∧ Below w.heap.size w w' := by
  have hu47 := Try.underlying47
  have HB := Aside0.mk (Below.refl w.heap.size w)
  have H : ((render_Render.f (([(⟨1, (⟨#[112]⟩ : ByteArray), (⟨#[]⟩ : ByteArray), ([] : List (S51)), false⟩ : S47), (⟨0, (⟨#[]⟩ : ByteArray), (⟨#[97]⟩ : ByteArray), ([] : List (S51)), false⟩ : S47), (⟨2, (⟨#[112]⟩ : ByteArray), (⟨#[]⟩ : ByteArray), ([] : List (S51)), false⟩ : S47), (⟨0, (⟨#[]⟩ : ByteArray), (⟨#[98]⟩ : ByteArray), ([] : List (S51)), false⟩ : S47)] : List (S47)))).bind fun t130 => (if t130.toList = ([97, 10, 10, 98] : List UInt8) then ((render_Render.f (([(⟨1, (⟨#[115, 99, 114, 105, 112, 116]⟩ : ByteArray), (⟨#[]⟩ : ByteArray), ([] : List (S51)), false⟩ : S47), (⟨0, (⟨#[]⟩ : ByteArray), (⟨#[120]⟩ : ByteArray), ([] : List (S51)), false⟩ : S47), (⟨2, (⟨#[115, 99, 114, 105, 112, 116]⟩ : ByteArray), (⟨#[]⟩ : ByteArray), ([] : List (S51)), false⟩ : S47), (⟨0, (⟨#[]⟩ : ByteArray), (⟨#[121]⟩ : ByteArray), ([] : List (S51)), false⟩ : S47)] : List (S47)))).bind fun t131 => (if t131.toList = ([121] : List UInt8) then ((render_Render.f ([] : List (S47))).bind fun t132 => (some (t132.toList == ([] : List UInt8)))) else (some false))) else (some false))) = some r := h
  clear h
  obtain ⟨y124, hy124⟩ : ∃ y_ : List (S47), y_ = (([(⟨1, (⟨#[112]⟩ : ByteArray), (⟨#[]⟩ : ByteArray), ([] : List (S51)), false⟩ : S47), (⟨0, (⟨#[]⟩ : ByteArray), (⟨#[97]⟩ : ByteArray), ([] : List (S51)), false⟩ : S47), (⟨2, (⟨#[112]⟩ : ByteArray), (⟨#[]⟩ : ByteArray), ([] : List (S51)), false⟩ : S47), (⟨0, (⟨#[]⟩ : ByteArray), (⟨#[98]⟩ : ByteArray), ([] : List (S51)), false⟩ : S47)] : List (S47))) := ⟨_, rfl⟩
  replace H : ((render_Render.f y124).bind fun t130 => (if t130.toList = ([97, 10, 10, 98] : List UInt8) then ((render_Render.f (([(⟨1, (⟨#[115, 99, 114, 105, 112, 116]⟩ : ByteArray), (⟨#[]⟩ : ByteArray), ([] : List (S51)), false⟩ : S47), (⟨0, (⟨#[]⟩ : ByteArray), (⟨#[120]⟩ : ByteArray), ([] : List (S51)), false⟩ : S47), (⟨2, (⟨#[115, 99, 114, 105, 112, 116]⟩ : ByteArray), (⟨#[]⟩ : ByteArray), ([] : List (S51)), false⟩ : S47), (⟨0, (⟨#[]⟩ : ByteArray), (⟨#[121]⟩ : ByteArray), ([] : List (S51)), false⟩ : S47)] : List (S47)))).bind fun t131 => (if t131.toList = ([121] : List UInt8) then ((render_Render.f ([] : List (S47))).bind fun t132 => (some (t132.toList == ([] : List UInt8)))) else (some false))) else (some false))) = some r := by first | (rw [hy124]; with_reducible exact H) | (have H2_ := (Option.bind_some _ _).symm.trans H; rw [hy124]; with_reducible exact H2_) | (have H2_ := (Option.bind_some _ _).symm.trans H; with_reducible exact H2_) | with_reducible exact H | (rw [hy124]; exact H) | exact H
  have Ny124 := Aside0.mk hy124
  clear hy124
  obtain ⟨y127, hy127⟩ : ∃ y_ : List (S47), y_ = (([(⟨1, (⟨#[115, 99, 114, 105, 112, 116]⟩ : ByteArray), (⟨#[]⟩ : ByteArray), ([] : List (S51)), false⟩ : S47), (⟨0, (⟨#[]⟩ : ByteArray), (⟨#[120]⟩ : ByteArray), ([] : List (S51)), false⟩ : S47), (⟨2, (⟨#[115, 99, 114, 105, 112, 116]⟩ : ByteArray), (⟨#[]⟩ : ByteArray), ([] : List (S51)), false⟩ : S47), (⟨0, (⟨#[]⟩ : ByteArray), (⟨#[121]⟩ : ByteArray), ([] : List (S51)), false⟩ : S47)] : List (S47))) := ⟨_, rfl⟩
  replace H : ((render_Render.f y124).bind fun t130 => (if t130.toList = ([97, 10, 10, 98] : List UInt8) then ((render_Render.f y127).bind fun t131 => (if t131.toList = ([121] : List UInt8) then ((render_Render.f ([] : List (S47))).bind fun t132 => (some (t132.toList == ([] : List UInt8)))) else (some false))) else (some false))) = some r := by first | (rw [hy127]; with_reducible exact H) | (have H2_ := (Option.bind_some _ _).symm.trans H; rw [hy127]; with_reducible exact H2_) | (have H2_ := (Option.bind_some _ _).symm.trans H; with_reducible exact H2_) | with_reducible exact H | (rw [hy127]; exact H) | exact H
  have Ny127 := Aside0.mk hy127
  clear hy127
  replace H := Option.bind_eq_some_iff.mp H
  obtain ⟨t130, A10, H⟩ := H
  replace H : (if t130.toList = ([97, 10, 10, 98] : List UInt8) then ((render_Render.f y127).bind fun t131 => (if t131.toList = ([121] : List UInt8) then ((render_Render.f ([] : List (S47))).bind fun t132 => (some (t132.toList == ([] : List UInt8)))) else (some false))) else (some false)) = some r := H
  have A1 := Aside0.mk A10
  clear A10
  by_cases c2 : t130.toList = ([97, 10, 10, 98] : List UInt8)
  · rw [if_pos c2] at H
    have c2b0 : (t130.toList == ([97, 10, 10, 98] : List UInt8)) = true := beq_iff_eq.mpr c2
    have c2b1 : (t130.toList != ([97, 10, 10, 98] : List UInt8)) = false := bne_eq_false_iff_eq.mpr c2
    clear c2
    replace H := Option.bind_eq_some_iff.mp H
    obtain ⟨t131, A30, H⟩ := H
    replace H : (if t131.toList = ([121] : List UInt8) then ((render_Render.f ([] : List (S47))).bind fun t132 => (some (t132.toList == ([] : List UInt8)))) else (some false)) = some r := H
    have A3 := Aside0.mk A30
    clear A30
    by_cases c4 : t131.toList = ([121] : List UInt8)
    · rw [if_pos c4] at H
      have c4b0 : (t131.toList == ([121] : List UInt8)) = true := beq_iff_eq.mpr c4
      have c4b1 : (t131.toList != ([121] : List UInt8)) = false := bne_eq_false_iff_eq.mpr c4
      clear c4
      replace H := Option.bind_eq_some_iff.mp H
      obtain ⟨t132, A50, H⟩ := H
      replace H : (some (t132.toList == ([] : List UInt8))) = some r := H
      have A5 := Aside0.mk A50
      clear A50
      obtain rfl := Option.some.inj H
      go_enter Try.func25, Try.ntmps25
      go_wp2_with (first | ((with_reducible refine gate_dst (N := 7) rfl ?_); refine Kd.S_lit k47 _ 47 ?hg (N := 7) ?hd (xs := ([(⟨1, (⟨#[112]⟩ : ByteArray), (⟨#[]⟩ : ByteArray), ([] : List (S51)), false⟩ : S47), (⟨0, (⟨#[]⟩ : ByteArray), (⟨#[97]⟩ : ByteArray), ([] : List (S51)), false⟩ : S47), (⟨2, (⟨#[112]⟩ : ByteArray), (⟨#[]⟩ : ByteArray), ([] : List (S51)), false⟩ : S47), (⟨0, (⟨#[]⟩ : ByteArray), (⟨#[98]⟩ : ByteArray), ([] : List (S51)), false⟩ : S47)] : List (S47))) (inner := [.int .i64 1, .string (⟨#[112]⟩ : ByteArray), .string (⟨#[]⟩ : ByteArray), .slice none 0 0, .bool false, .int .i64 0, .string (⟨#[]⟩ : ByteArray), .string (⟨#[97]⟩ : ByteArray), .slice none 0 0, .bool false, .int .i64 2, .string (⟨#[112]⟩ : ByteArray), .string (⟨#[]⟩ : ByteArray), .slice none 0 0, .bool false, .int .i64 0, .string (⟨#[]⟩ : ByteArray), .string (⟨#[98]⟩ : ByteArray), .slice none 0 0, .bool false]) (ok := fun _ => True) (okp := fun _ => True) ?hr ?hp (fun _ hk => hk) trivial (Below.refl _ _) (Nat.le_refl _) (by simp) ?_; (case hd => rfl); (case hg => rfl); (case hr => first | (go_simp; done) | (go_simp; rfl)); (case hp => exact (Reps.c5 (show Kd.M k47 _ _ _ (⟨1, (⟨#[112]⟩ : ByteArray), (⟨#[]⟩ : ByteArray), ([] : List (S51)), false⟩ : S47) [.int .i64 1, .string (⟨#[112]⟩ : ByteArray), .string (⟨#[]⟩ : ByteArray), .slice none 0 0, .bool false] from (k47_mkM _ _ _ (⟨1, (⟨#[112]⟩ : ByteArray), (⟨#[]⟩ : ByteArray), ([] : List (S51)), false⟩ : S47) (Kd.R_nil _ _ _ _ _))) (Reps.c5 (show Kd.M k47 _ _ _ (⟨0, (⟨#[]⟩ : ByteArray), (⟨#[97]⟩ : ByteArray), ([] : List (S51)), false⟩ : S47) [.int .i64 0, .string (⟨#[]⟩ : ByteArray), .string (⟨#[97]⟩ : ByteArray), .slice none 0 0, .bool false] from (k47_mkM _ _ _ (⟨0, (⟨#[]⟩ : ByteArray), (⟨#[97]⟩ : ByteArray), ([] : List (S51)), false⟩ : S47) (Kd.R_nil _ _ _ _ _))) (Reps.c5 (show Kd.M k47 _ _ _ (⟨2, (⟨#[112]⟩ : ByteArray), (⟨#[]⟩ : ByteArray), ([] : List (S51)), false⟩ : S47) [.int .i64 2, .string (⟨#[112]⟩ : ByteArray), .string (⟨#[]⟩ : ByteArray), .slice none 0 0, .bool false] from (k47_mkM _ _ _ (⟨2, (⟨#[112]⟩ : ByteArray), (⟨#[]⟩ : ByteArray), ([] : List (S51)), false⟩ : S47) (Kd.R_nil _ _ _ _ _))) (Reps.c5 (show Kd.M k47 _ _ _ (⟨0, (⟨#[]⟩ : ByteArray), (⟨#[98]⟩ : ByteArray), ([] : List (S51)), false⟩ : S47) [.int .i64 0, .string (⟨#[]⟩ : ByteArray), .string (⟨#[98]⟩ : ByteArray), .slice none 0 0, .bool false] from (k47_mkM _ _ _ (⟨0, (⟨#[]⟩ : ByteArray), (⟨#[98]⟩ : ByteArray), ([] : List (S51)), false⟩ : S47) (Kd.R_nil _ _ _ _ _))) (Reps.none _ _)))))); intro v125 w6 ho7 hb hg_ hnew_; clear hg_ hnew_; (first | rw [← Ny124.out] at ho7 | (simp only [Int.reduceToNat] at ho7; rw [← Ny124.out] at ho7)); have n0_ := Aside0.mk (Kd.S_lower ho7 (below_size (by repeat (first | (with_reducible first | exact HB.out | apply below_alloc | apply pw_below_drewN | apply below_drew1) | exact HB.out)))); have n1_ := Aside0.mk (below_step (by repeat (first | (with_reducible first | exact HB.out | apply below_alloc | apply pw_below_drewN | apply below_drew1) | exact HB.out)) hb); clear HB; have HO126 := n0_; have HB := n1_; clear n0_ n1_; clear hb ho7) | ((with_reducible refine gate_dst (N := 12) rfl ?_); refine Kd.S_lit k47 _ 47 ?hg (N := 12) ?hd (xs := ([(⟨1, (⟨#[115, 99, 114, 105, 112, 116]⟩ : ByteArray), (⟨#[]⟩ : ByteArray), ([] : List (S51)), false⟩ : S47), (⟨0, (⟨#[]⟩ : ByteArray), (⟨#[120]⟩ : ByteArray), ([] : List (S51)), false⟩ : S47), (⟨2, (⟨#[115, 99, 114, 105, 112, 116]⟩ : ByteArray), (⟨#[]⟩ : ByteArray), ([] : List (S51)), false⟩ : S47), (⟨0, (⟨#[]⟩ : ByteArray), (⟨#[121]⟩ : ByteArray), ([] : List (S51)), false⟩ : S47)] : List (S47))) (inner := [.int .i64 1, .string (⟨#[115, 99, 114, 105, 112, 116]⟩ : ByteArray), .string (⟨#[]⟩ : ByteArray), .slice none 0 0, .bool false, .int .i64 0, .string (⟨#[]⟩ : ByteArray), .string (⟨#[120]⟩ : ByteArray), .slice none 0 0, .bool false, .int .i64 2, .string (⟨#[115, 99, 114, 105, 112, 116]⟩ : ByteArray), .string (⟨#[]⟩ : ByteArray), .slice none 0 0, .bool false, .int .i64 0, .string (⟨#[]⟩ : ByteArray), .string (⟨#[121]⟩ : ByteArray), .slice none 0 0, .bool false]) (ok := fun _ => True) (okp := fun _ => True) ?hr ?hp (fun _ hk => hk) trivial (Below.refl _ _) (Nat.le_refl _) (by simp) ?_; (case hd => rfl); (case hg => rfl); (case hr => first | (go_simp; done) | (go_simp; rfl)); (case hp => exact (Reps.c5 (show Kd.M k47 _ _ _ (⟨1, (⟨#[115, 99, 114, 105, 112, 116]⟩ : ByteArray), (⟨#[]⟩ : ByteArray), ([] : List (S51)), false⟩ : S47) [.int .i64 1, .string (⟨#[115, 99, 114, 105, 112, 116]⟩ : ByteArray), .string (⟨#[]⟩ : ByteArray), .slice none 0 0, .bool false] from (k47_mkM _ _ _ (⟨1, (⟨#[115, 99, 114, 105, 112, 116]⟩ : ByteArray), (⟨#[]⟩ : ByteArray), ([] : List (S51)), false⟩ : S47) (Kd.R_nil _ _ _ _ _))) (Reps.c5 (show Kd.M k47 _ _ _ (⟨0, (⟨#[]⟩ : ByteArray), (⟨#[120]⟩ : ByteArray), ([] : List (S51)), false⟩ : S47) [.int .i64 0, .string (⟨#[]⟩ : ByteArray), .string (⟨#[120]⟩ : ByteArray), .slice none 0 0, .bool false] from (k47_mkM _ _ _ (⟨0, (⟨#[]⟩ : ByteArray), (⟨#[120]⟩ : ByteArray), ([] : List (S51)), false⟩ : S47) (Kd.R_nil _ _ _ _ _))) (Reps.c5 (show Kd.M k47 _ _ _ (⟨2, (⟨#[115, 99, 114, 105, 112, 116]⟩ : ByteArray), (⟨#[]⟩ : ByteArray), ([] : List (S51)), false⟩ : S47) [.int .i64 2, .string (⟨#[115, 99, 114, 105, 112, 116]⟩ : ByteArray), .string (⟨#[]⟩ : ByteArray), .slice none 0 0, .bool false] from (k47_mkM _ _ _ (⟨2, (⟨#[115, 99, 114, 105, 112, 116]⟩ : ByteArray), (⟨#[]⟩ : ByteArray), ([] : List (S51)), false⟩ : S47) (Kd.R_nil _ _ _ _ _))) (Reps.c5 (show Kd.M k47 _ _ _ (⟨0, (⟨#[]⟩ : ByteArray), (⟨#[121]⟩ : ByteArray), ([] : List (S51)), false⟩ : S47) [.int .i64 0, .string (⟨#[]⟩ : ByteArray), .string (⟨#[121]⟩ : ByteArray), .slice none 0 0, .bool false] from (k47_mkM _ _ _ (⟨0, (⟨#[]⟩ : ByteArray), (⟨#[121]⟩ : ByteArray), ([] : List (S51)), false⟩ : S47) (Kd.R_nil _ _ _ _ _))) (Reps.none _ _)))))); intro v128 w8 ho9 hb hg_ hnew_; clear hg_ hnew_; (first | rw [← Ny127.out] at ho9 | (simp only [Int.reduceToNat] at ho9; rw [← Ny127.out] at ho9)); have n0_ := Aside0.mk (Kd.S_elder' (by (with_reducible repeat (first | apply Kd.S_alloc | apply Kd.S_drewN | apply Kd.S_drew)); exact HO126.out) (Kd.S_base ho9) hb); have n1_ := Aside0.mk (Kd.S_lower (Kd.S_new' ho9 (Kd.S_lt (by (with_reducible repeat (first | apply Kd.S_alloc | apply Kd.S_drewN | apply Kd.S_drew)); exact HO126.out))) (below_size (by repeat (first | (with_reducible first | exact HB.out | apply below_alloc | apply pw_below_drewN | apply below_drew1) | exact HB.out)))); have n2_ := Aside0.mk (below_step (by repeat (first | (with_reducible first | exact HB.out | apply below_alloc | apply pw_below_drewN | apply below_drew1) | exact HB.out)) hb); clear HO126; clear HB; have HO126 := n0_; have HO129 := n1_; have HB := n2_; clear n0_ n1_ n2_; clear hb ho9; obtain ⟨Ao10, co10, eo10⟩ := Kd.S_slice HO126.out; subst eo10) | ((with_reducible refine gate_callee (f := 27) rfl ?_); refine goesL_ (some 14) rfl rfl Try.func27 (by kernel_rfl) rfl #[.slice Ao10 y124.length co10] rfl (by (try simp only [List.map_toArray, List.map_cons, List.map_nil]); first | done | rfl | (simp only [List.length_drop, List.length_take]; rfl)) ?_; (with_reducible refine (render_Render.calls _ _ y124 t130 _ ?side1 ?side2 A1.out).mono ?_); (case side1 => repeat (first | exact (Kd.S_reads' HO126.out).2.2 | (with_reducible refine Kd.C_alloc ?_ _) | (with_reducible refine Kd.C_drewN ?_ _) | (with_reducible refine Kd.C_drew ?_))); (case side2 => exact (Kd.S_reads' HO126.out).2.1); rintro e w11 ⟨rfl, hb⟩; refine ⟨_, rfl, ?_⟩; have n0_ := Aside0.mk (Kd.S_below (by (with_reducible repeat (first | apply Kd.S_alloc | apply Kd.S_drewN | apply Kd.S_drew)); exact HO126.out) hb); have n1_ := Aside0.mk (Kd.S_below (by (with_reducible repeat (first | apply Kd.S_alloc | apply Kd.S_drewN | apply Kd.S_drew)); exact HO129.out) hb); have n2_ := Aside0.mk (below_step (by repeat (first | (with_reducible first | exact HB.out | apply below_alloc | apply pw_below_drewN | apply below_drew1) | exact HB.out)) hb); clear HO126; clear HO129; clear HB; have HO126 := n0_; have HO129 := n1_; have HB := n2_; clear n0_ n1_ n2_; (try clear hb); (try clear hb2); (try clear hk); (try clear hi); obtain ⟨Ao12, co12, eo12⟩ := Kd.S_slice HO129.out; subst eo12) | (go_at_call 27; (with_reducible refine (render_Render.calls _ _ y127 t131 _ ?side1 ?side2 A3.out).mono ?_); (case side1 => repeat (first | exact (Kd.S_reads' HO129.out).2.2 | (with_reducible refine Kd.C_alloc ?_ _) | (with_reducible refine Kd.C_drewN ?_ _) | (with_reducible refine Kd.C_drew ?_))); (case side2 => exact (Kd.S_reads' HO129.out).2.1); rintro e w13 ⟨rfl, hb⟩; have n0_ := Aside0.mk (Kd.S_below (by (with_reducible repeat (first | apply Kd.S_alloc | apply Kd.S_drewN | apply Kd.S_drew)); exact HO126.out) hb); have n1_ := Aside0.mk (Kd.S_below (by (with_reducible repeat (first | apply Kd.S_alloc | apply Kd.S_drewN | apply Kd.S_drew)); exact HO129.out) hb); have n2_ := Aside0.mk (below_step (by repeat (first | (with_reducible first | exact HB.out | apply below_alloc | apply pw_below_drewN | apply below_drew1) | exact HB.out)) hb); clear HO126; clear HO129; clear HB; have HO126 := n0_; have HO129 := n1_; have HB := n2_; clear n0_ n1_ n2_; (try clear hb); (try clear hb2); (try clear hk); (try clear hi)) | (go_at_call 27; (refine (render_Render.calls _ _ ([] : List (S47)) t132 _ ?side1 ?side2 A5.out).mono ?_); (case side1 => exact Kd.C_nil _ _); (case side2 => exact Nat.le_refl _); rintro e w14 ⟨rfl, hb⟩; have n0_ := Aside0.mk (Kd.S_below (by (with_reducible repeat (first | apply Kd.S_alloc | apply Kd.S_drewN | apply Kd.S_drew)); exact HO126.out) hb); have n1_ := Aside0.mk (Kd.S_below (by (with_reducible repeat (first | apply Kd.S_alloc | apply Kd.S_drewN | apply Kd.S_drew)); exact HO129.out) hb); have n2_ := Aside0.mk (below_step (by repeat (first | (with_reducible first | exact HB.out | apply below_alloc | apply pw_below_drewN | apply below_drew1) | exact HB.out)) hb); clear HO126; clear HO129; clear HB; have HO126 := n0_; have HO129 := n1_; have HB := n2_; clear n0_ n1_ n2_; (try clear hb); (try clear hb2); (try clear hk); (try clear hi)))
      go_ret
      exact ⟨by first | rfl | (simp [errW_none, errW_some] <;> rfl) | (simp [*, errW_none, errW_some] <;> rfl), by repeat (first | (with_reducible first | exact HB.out | apply below_alloc | apply pw_below_drewN | apply below_drew1) | exact HB.out)⟩
    · rw [if_neg c4] at H
      have c4b0 : (t131.toList == ([121] : List UInt8)) = false := beq_eq_false_iff_ne.mpr c4
      have c4b1 : (t131.toList != ([121] : List UInt8)) = true := bne_iff_ne.mpr c4
      obtain rfl := Option.some.inj H
      go_enter Try.func25, Try.ntmps25
      go_wp2_with (first | ((with_reducible refine gate_dst (N := 7) rfl ?_); refine Kd.S_lit k47 _ 47 ?hg (N := 7) ?hd (xs := ([(⟨1, (⟨#[112]⟩ : ByteArray), (⟨#[]⟩ : ByteArray), ([] : List (S51)), false⟩ : S47), (⟨0, (⟨#[]⟩ : ByteArray), (⟨#[97]⟩ : ByteArray), ([] : List (S51)), false⟩ : S47), (⟨2, (⟨#[112]⟩ : ByteArray), (⟨#[]⟩ : ByteArray), ([] : List (S51)), false⟩ : S47), (⟨0, (⟨#[]⟩ : ByteArray), (⟨#[98]⟩ : ByteArray), ([] : List (S51)), false⟩ : S47)] : List (S47))) (inner := [.int .i64 1, .string (⟨#[112]⟩ : ByteArray), .string (⟨#[]⟩ : ByteArray), .slice none 0 0, .bool false, .int .i64 0, .string (⟨#[]⟩ : ByteArray), .string (⟨#[97]⟩ : ByteArray), .slice none 0 0, .bool false, .int .i64 2, .string (⟨#[112]⟩ : ByteArray), .string (⟨#[]⟩ : ByteArray), .slice none 0 0, .bool false, .int .i64 0, .string (⟨#[]⟩ : ByteArray), .string (⟨#[98]⟩ : ByteArray), .slice none 0 0, .bool false]) (ok := fun _ => True) (okp := fun _ => True) ?hr ?hp (fun _ hk => hk) trivial (Below.refl _ _) (Nat.le_refl _) (by simp) ?_; (case hd => rfl); (case hg => rfl); (case hr => first | (go_simp; done) | (go_simp; rfl)); (case hp => exact (Reps.c5 (show Kd.M k47 _ _ _ (⟨1, (⟨#[112]⟩ : ByteArray), (⟨#[]⟩ : ByteArray), ([] : List (S51)), false⟩ : S47) [.int .i64 1, .string (⟨#[112]⟩ : ByteArray), .string (⟨#[]⟩ : ByteArray), .slice none 0 0, .bool false] from (k47_mkM _ _ _ (⟨1, (⟨#[112]⟩ : ByteArray), (⟨#[]⟩ : ByteArray), ([] : List (S51)), false⟩ : S47) (Kd.R_nil _ _ _ _ _))) (Reps.c5 (show Kd.M k47 _ _ _ (⟨0, (⟨#[]⟩ : ByteArray), (⟨#[97]⟩ : ByteArray), ([] : List (S51)), false⟩ : S47) [.int .i64 0, .string (⟨#[]⟩ : ByteArray), .string (⟨#[97]⟩ : ByteArray), .slice none 0 0, .bool false] from (k47_mkM _ _ _ (⟨0, (⟨#[]⟩ : ByteArray), (⟨#[97]⟩ : ByteArray), ([] : List (S51)), false⟩ : S47) (Kd.R_nil _ _ _ _ _))) (Reps.c5 (show Kd.M k47 _ _ _ (⟨2, (⟨#[112]⟩ : ByteArray), (⟨#[]⟩ : ByteArray), ([] : List (S51)), false⟩ : S47) [.int .i64 2, .string (⟨#[112]⟩ : ByteArray), .string (⟨#[]⟩ : ByteArray), .slice none 0 0, .bool false] from (k47_mkM _ _ _ (⟨2, (⟨#[112]⟩ : ByteArray), (⟨#[]⟩ : ByteArray), ([] : List (S51)), false⟩ : S47) (Kd.R_nil _ _ _ _ _))) (Reps.c5 (show Kd.M k47 _ _ _ (⟨0, (⟨#[]⟩ : ByteArray), (⟨#[98]⟩ : ByteArray), ([] : List (S51)), false⟩ : S47) [.int .i64 0, .string (⟨#[]⟩ : ByteArray), .string (⟨#[98]⟩ : ByteArray), .slice none 0 0, .bool false] from (k47_mkM _ _ _ (⟨0, (⟨#[]⟩ : ByteArray), (⟨#[98]⟩ : ByteArray), ([] : List (S51)), false⟩ : S47) (Kd.R_nil _ _ _ _ _))) (Reps.none _ _)))))); intro v125 w15 ho16 hb hg_ hnew_; clear hg_ hnew_; (first | rw [← Ny124.out] at ho16 | (simp only [Int.reduceToNat] at ho16; rw [← Ny124.out] at ho16)); have n0_ := Aside0.mk (Kd.S_lower ho16 (below_size (by repeat (first | (with_reducible first | exact HB.out | apply below_alloc | apply pw_below_drewN | apply below_drew1) | exact HB.out)))); have n1_ := Aside0.mk (below_step (by repeat (first | (with_reducible first | exact HB.out | apply below_alloc | apply pw_below_drewN | apply below_drew1) | exact HB.out)) hb); clear HB; have HO126 := n0_; have HB := n1_; clear n0_ n1_; clear hb ho16) | ((with_reducible refine gate_dst (N := 12) rfl ?_); refine Kd.S_lit k47 _ 47 ?hg (N := 12) ?hd (xs := ([(⟨1, (⟨#[115, 99, 114, 105, 112, 116]⟩ : ByteArray), (⟨#[]⟩ : ByteArray), ([] : List (S51)), false⟩ : S47), (⟨0, (⟨#[]⟩ : ByteArray), (⟨#[120]⟩ : ByteArray), ([] : List (S51)), false⟩ : S47), (⟨2, (⟨#[115, 99, 114, 105, 112, 116]⟩ : ByteArray), (⟨#[]⟩ : ByteArray), ([] : List (S51)), false⟩ : S47), (⟨0, (⟨#[]⟩ : ByteArray), (⟨#[121]⟩ : ByteArray), ([] : List (S51)), false⟩ : S47)] : List (S47))) (inner := [.int .i64 1, .string (⟨#[115, 99, 114, 105, 112, 116]⟩ : ByteArray), .string (⟨#[]⟩ : ByteArray), .slice none 0 0, .bool false, .int .i64 0, .string (⟨#[]⟩ : ByteArray), .string (⟨#[120]⟩ : ByteArray), .slice none 0 0, .bool false, .int .i64 2, .string (⟨#[115, 99, 114, 105, 112, 116]⟩ : ByteArray), .string (⟨#[]⟩ : ByteArray), .slice none 0 0, .bool false, .int .i64 0, .string (⟨#[]⟩ : ByteArray), .string (⟨#[121]⟩ : ByteArray), .slice none 0 0, .bool false]) (ok := fun _ => True) (okp := fun _ => True) ?hr ?hp (fun _ hk => hk) trivial (Below.refl _ _) (Nat.le_refl _) (by simp) ?_; (case hd => rfl); (case hg => rfl); (case hr => first | (go_simp; done) | (go_simp; rfl)); (case hp => exact (Reps.c5 (show Kd.M k47 _ _ _ (⟨1, (⟨#[115, 99, 114, 105, 112, 116]⟩ : ByteArray), (⟨#[]⟩ : ByteArray), ([] : List (S51)), false⟩ : S47) [.int .i64 1, .string (⟨#[115, 99, 114, 105, 112, 116]⟩ : ByteArray), .string (⟨#[]⟩ : ByteArray), .slice none 0 0, .bool false] from (k47_mkM _ _ _ (⟨1, (⟨#[115, 99, 114, 105, 112, 116]⟩ : ByteArray), (⟨#[]⟩ : ByteArray), ([] : List (S51)), false⟩ : S47) (Kd.R_nil _ _ _ _ _))) (Reps.c5 (show Kd.M k47 _ _ _ (⟨0, (⟨#[]⟩ : ByteArray), (⟨#[120]⟩ : ByteArray), ([] : List (S51)), false⟩ : S47) [.int .i64 0, .string (⟨#[]⟩ : ByteArray), .string (⟨#[120]⟩ : ByteArray), .slice none 0 0, .bool false] from (k47_mkM _ _ _ (⟨0, (⟨#[]⟩ : ByteArray), (⟨#[120]⟩ : ByteArray), ([] : List (S51)), false⟩ : S47) (Kd.R_nil _ _ _ _ _))) (Reps.c5 (show Kd.M k47 _ _ _ (⟨2, (⟨#[115, 99, 114, 105, 112, 116]⟩ : ByteArray), (⟨#[]⟩ : ByteArray), ([] : List (S51)), false⟩ : S47) [.int .i64 2, .string (⟨#[115, 99, 114, 105, 112, 116]⟩ : ByteArray), .string (⟨#[]⟩ : ByteArray), .slice none 0 0, .bool false] from (k47_mkM _ _ _ (⟨2, (⟨#[115, 99, 114, 105, 112, 116]⟩ : ByteArray), (⟨#[]⟩ : ByteArray), ([] : List (S51)), false⟩ : S47) (Kd.R_nil _ _ _ _ _))) (Reps.c5 (show Kd.M k47 _ _ _ (⟨0, (⟨#[]⟩ : ByteArray), (⟨#[121]⟩ : ByteArray), ([] : List (S51)), false⟩ : S47) [.int .i64 0, .string (⟨#[]⟩ : ByteArray), .string (⟨#[121]⟩ : ByteArray), .slice none 0 0, .bool false] from (k47_mkM _ _ _ (⟨0, (⟨#[]⟩ : ByteArray), (⟨#[121]⟩ : ByteArray), ([] : List (S51)), false⟩ : S47) (Kd.R_nil _ _ _ _ _))) (Reps.none _ _)))))); intro v128 w17 ho18 hb hg_ hnew_; clear hg_ hnew_; (first | rw [← Ny127.out] at ho18 | (simp only [Int.reduceToNat] at ho18; rw [← Ny127.out] at ho18)); have n0_ := Aside0.mk (Kd.S_elder' (by (with_reducible repeat (first | apply Kd.S_alloc | apply Kd.S_drewN | apply Kd.S_drew)); exact HO126.out) (Kd.S_base ho18) hb); have n1_ := Aside0.mk (Kd.S_lower (Kd.S_new' ho18 (Kd.S_lt (by (with_reducible repeat (first | apply Kd.S_alloc | apply Kd.S_drewN | apply Kd.S_drew)); exact HO126.out))) (below_size (by repeat (first | (with_reducible first | exact HB.out | apply below_alloc | apply pw_below_drewN | apply below_drew1) | exact HB.out)))); have n2_ := Aside0.mk (below_step (by repeat (first | (with_reducible first | exact HB.out | apply below_alloc | apply pw_below_drewN | apply below_drew1) | exact HB.out)) hb); clear HO126; clear HB; have HO126 := n0_; have HO129 := n1_; have HB := n2_; clear n0_ n1_ n2_; clear hb ho18; obtain ⟨Ao19, co19, eo19⟩ := Kd.S_slice HO126.out; subst eo19) | ((with_reducible refine gate_callee (f := 27) rfl ?_); refine goesL_ (some 14) rfl rfl Try.func27 (by kernel_rfl) rfl #[.slice Ao19 y124.length co19] rfl (by (try simp only [List.map_toArray, List.map_cons, List.map_nil]); first | done | rfl | (simp only [List.length_drop, List.length_take]; rfl)) ?_; (with_reducible refine (render_Render.calls _ _ y124 t130 _ ?side1 ?side2 A1.out).mono ?_); (case side1 => repeat (first | exact (Kd.S_reads' HO126.out).2.2 | (with_reducible refine Kd.C_alloc ?_ _) | (with_reducible refine Kd.C_drewN ?_ _) | (with_reducible refine Kd.C_drew ?_))); (case side2 => exact (Kd.S_reads' HO126.out).2.1); rintro e w20 ⟨rfl, hb⟩; refine ⟨_, rfl, ?_⟩; have n0_ := Aside0.mk (Kd.S_below (by (with_reducible repeat (first | apply Kd.S_alloc | apply Kd.S_drewN | apply Kd.S_drew)); exact HO126.out) hb); have n1_ := Aside0.mk (Kd.S_below (by (with_reducible repeat (first | apply Kd.S_alloc | apply Kd.S_drewN | apply Kd.S_drew)); exact HO129.out) hb); have n2_ := Aside0.mk (below_step (by repeat (first | (with_reducible first | exact HB.out | apply below_alloc | apply pw_below_drewN | apply below_drew1) | exact HB.out)) hb); clear HO126; clear HO129; clear HB; have HO126 := n0_; have HO129 := n1_; have HB := n2_; clear n0_ n1_ n2_; (try clear hb); (try clear hb2); (try clear hk); (try clear hi); obtain ⟨Ao21, co21, eo21⟩ := Kd.S_slice HO129.out; subst eo21) | (go_at_call 27; (with_reducible refine (render_Render.calls _ _ y127 t131 _ ?side1 ?side2 A3.out).mono ?_); (case side1 => repeat (first | exact (Kd.S_reads' HO129.out).2.2 | (with_reducible refine Kd.C_alloc ?_ _) | (with_reducible refine Kd.C_drewN ?_ _) | (with_reducible refine Kd.C_drew ?_))); (case side2 => exact (Kd.S_reads' HO129.out).2.1); rintro e w22 ⟨rfl, hb⟩; have n0_ := Aside0.mk (Kd.S_below (by (with_reducible repeat (first | apply Kd.S_alloc | apply Kd.S_drewN | apply Kd.S_drew)); exact HO126.out) hb); have n1_ := Aside0.mk (Kd.S_below (by (with_reducible repeat (first | apply Kd.S_alloc | apply Kd.S_drewN | apply Kd.S_drew)); exact HO129.out) hb); have n2_ := Aside0.mk (below_step (by repeat (first | (with_reducible first | exact HB.out | apply below_alloc | apply pw_below_drewN | apply below_drew1) | exact HB.out)) hb); clear HO126; clear HO129; clear HB; have HO126 := n0_; have HO129 := n1_; have HB := n2_; clear n0_ n1_ n2_; (try clear hb); (try clear hb2); (try clear hk); (try clear hi)))
      go_ret
      exact ⟨by first | rfl | (simp [errW_none, errW_some] <;> rfl) | (simp [*, errW_none, errW_some] <;> rfl), by repeat (first | (with_reducible first | exact HB.out | apply below_alloc | apply pw_below_drewN | apply below_drew1) | exact HB.out)⟩
  · rw [if_neg c2] at H
    have c2b0 : (t130.toList == ([97, 10, 10, 98] : List UInt8)) = false := beq_eq_false_iff_ne.mpr c2
    have c2b1 : (t130.toList != ([97, 10, 10, 98] : List UInt8)) = true := bne_iff_ne.mpr c2
    obtain rfl := Option.some.inj H
    go_enter Try.func25, Try.ntmps25
    go_wp2_with (first | ((with_reducible refine gate_dst (N := 7) rfl ?_); refine Kd.S_lit k47 _ 47 ?hg (N := 7) ?hd (xs := ([(⟨1, (⟨#[112]⟩ : ByteArray), (⟨#[]⟩ : ByteArray), ([] : List (S51)), false⟩ : S47), (⟨0, (⟨#[]⟩ : ByteArray), (⟨#[97]⟩ : ByteArray), ([] : List (S51)), false⟩ : S47), (⟨2, (⟨#[112]⟩ : ByteArray), (⟨#[]⟩ : ByteArray), ([] : List (S51)), false⟩ : S47), (⟨0, (⟨#[]⟩ : ByteArray), (⟨#[98]⟩ : ByteArray), ([] : List (S51)), false⟩ : S47)] : List (S47))) (inner := [.int .i64 1, .string (⟨#[112]⟩ : ByteArray), .string (⟨#[]⟩ : ByteArray), .slice none 0 0, .bool false, .int .i64 0, .string (⟨#[]⟩ : ByteArray), .string (⟨#[97]⟩ : ByteArray), .slice none 0 0, .bool false, .int .i64 2, .string (⟨#[112]⟩ : ByteArray), .string (⟨#[]⟩ : ByteArray), .slice none 0 0, .bool false, .int .i64 0, .string (⟨#[]⟩ : ByteArray), .string (⟨#[98]⟩ : ByteArray), .slice none 0 0, .bool false]) (ok := fun _ => True) (okp := fun _ => True) ?hr ?hp (fun _ hk => hk) trivial (Below.refl _ _) (Nat.le_refl _) (by simp) ?_; (case hd => rfl); (case hg => rfl); (case hr => first | (go_simp; done) | (go_simp; rfl)); (case hp => exact (Reps.c5 (show Kd.M k47 _ _ _ (⟨1, (⟨#[112]⟩ : ByteArray), (⟨#[]⟩ : ByteArray), ([] : List (S51)), false⟩ : S47) [.int .i64 1, .string (⟨#[112]⟩ : ByteArray), .string (⟨#[]⟩ : ByteArray), .slice none 0 0, .bool false] from (k47_mkM _ _ _ (⟨1, (⟨#[112]⟩ : ByteArray), (⟨#[]⟩ : ByteArray), ([] : List (S51)), false⟩ : S47) (Kd.R_nil _ _ _ _ _))) (Reps.c5 (show Kd.M k47 _ _ _ (⟨0, (⟨#[]⟩ : ByteArray), (⟨#[97]⟩ : ByteArray), ([] : List (S51)), false⟩ : S47) [.int .i64 0, .string (⟨#[]⟩ : ByteArray), .string (⟨#[97]⟩ : ByteArray), .slice none 0 0, .bool false] from (k47_mkM _ _ _ (⟨0, (⟨#[]⟩ : ByteArray), (⟨#[97]⟩ : ByteArray), ([] : List (S51)), false⟩ : S47) (Kd.R_nil _ _ _ _ _))) (Reps.c5 (show Kd.M k47 _ _ _ (⟨2, (⟨#[112]⟩ : ByteArray), (⟨#[]⟩ : ByteArray), ([] : List (S51)), false⟩ : S47) [.int .i64 2, .string (⟨#[112]⟩ : ByteArray), .string (⟨#[]⟩ : ByteArray), .slice none 0 0, .bool false] from (k47_mkM _ _ _ (⟨2, (⟨#[112]⟩ : ByteArray), (⟨#[]⟩ : ByteArray), ([] : List (S51)), false⟩ : S47) (Kd.R_nil _ _ _ _ _))) (Reps.c5 (show Kd.M k47 _ _ _ (⟨0, (⟨#[]⟩ : ByteArray), (⟨#[98]⟩ : ByteArray), ([] : List (S51)), false⟩ : S47) [.int .i64 0, .string (⟨#[]⟩ : ByteArray), .string (⟨#[98]⟩ : ByteArray), .slice none 0 0, .bool false] from (k47_mkM _ _ _ (⟨0, (⟨#[]⟩ : ByteArray), (⟨#[98]⟩ : ByteArray), ([] : List (S51)), false⟩ : S47) (Kd.R_nil _ _ _ _ _))) (Reps.none _ _)))))); intro v125 w23 ho24 hb hg_ hnew_; clear hg_ hnew_; (first | rw [← Ny124.out] at ho24 | (simp only [Int.reduceToNat] at ho24; rw [← Ny124.out] at ho24)); have n0_ := Aside0.mk (Kd.S_lower ho24 (below_size (by repeat (first | (with_reducible first | exact HB.out | apply below_alloc | apply pw_below_drewN | apply below_drew1) | exact HB.out)))); have n1_ := Aside0.mk (below_step (by repeat (first | (with_reducible first | exact HB.out | apply below_alloc | apply pw_below_drewN | apply below_drew1) | exact HB.out)) hb); clear HB; have HO126 := n0_; have HB := n1_; clear n0_ n1_; clear hb ho24) | ((with_reducible refine gate_dst (N := 12) rfl ?_); refine Kd.S_lit k47 _ 47 ?hg (N := 12) ?hd (xs := ([(⟨1, (⟨#[115, 99, 114, 105, 112, 116]⟩ : ByteArray), (⟨#[]⟩ : ByteArray), ([] : List (S51)), false⟩ : S47), (⟨0, (⟨#[]⟩ : ByteArray), (⟨#[120]⟩ : ByteArray), ([] : List (S51)), false⟩ : S47), (⟨2, (⟨#[115, 99, 114, 105, 112, 116]⟩ : ByteArray), (⟨#[]⟩ : ByteArray), ([] : List (S51)), false⟩ : S47), (⟨0, (⟨#[]⟩ : ByteArray), (⟨#[121]⟩ : ByteArray), ([] : List (S51)), false⟩ : S47)] : List (S47))) (inner := [.int .i64 1, .string (⟨#[115, 99, 114, 105, 112, 116]⟩ : ByteArray), .string (⟨#[]⟩ : ByteArray), .slice none 0 0, .bool false, .int .i64 0, .string (⟨#[]⟩ : ByteArray), .string (⟨#[120]⟩ : ByteArray), .slice none 0 0, .bool false, .int .i64 2, .string (⟨#[115, 99, 114, 105, 112, 116]⟩ : ByteArray), .string (⟨#[]⟩ : ByteArray), .slice none 0 0, .bool false, .int .i64 0, .string (⟨#[]⟩ : ByteArray), .string (⟨#[121]⟩ : ByteArray), .slice none 0 0, .bool false]) (ok := fun _ => True) (okp := fun _ => True) ?hr ?hp (fun _ hk => hk) trivial (Below.refl _ _) (Nat.le_refl _) (by simp) ?_; (case hd => rfl); (case hg => rfl); (case hr => first | (go_simp; done) | (go_simp; rfl)); (case hp => exact (Reps.c5 (show Kd.M k47 _ _ _ (⟨1, (⟨#[115, 99, 114, 105, 112, 116]⟩ : ByteArray), (⟨#[]⟩ : ByteArray), ([] : List (S51)), false⟩ : S47) [.int .i64 1, .string (⟨#[115, 99, 114, 105, 112, 116]⟩ : ByteArray), .string (⟨#[]⟩ : ByteArray), .slice none 0 0, .bool false] from (k47_mkM _ _ _ (⟨1, (⟨#[115, 99, 114, 105, 112, 116]⟩ : ByteArray), (⟨#[]⟩ : ByteArray), ([] : List (S51)), false⟩ : S47) (Kd.R_nil _ _ _ _ _))) (Reps.c5 (show Kd.M k47 _ _ _ (⟨0, (⟨#[]⟩ : ByteArray), (⟨#[120]⟩ : ByteArray), ([] : List (S51)), false⟩ : S47) [.int .i64 0, .string (⟨#[]⟩ : ByteArray), .string (⟨#[120]⟩ : ByteArray), .slice none 0 0, .bool false] from (k47_mkM _ _ _ (⟨0, (⟨#[]⟩ : ByteArray), (⟨#[120]⟩ : ByteArray), ([] : List (S51)), false⟩ : S47) (Kd.R_nil _ _ _ _ _))) (Reps.c5 (show Kd.M k47 _ _ _ (⟨2, (⟨#[115, 99, 114, 105, 112, 116]⟩ : ByteArray), (⟨#[]⟩ : ByteArray), ([] : List (S51)), false⟩ : S47) [.int .i64 2, .string (⟨#[115, 99, 114, 105, 112, 116]⟩ : ByteArray), .string (⟨#[]⟩ : ByteArray), .slice none 0 0, .bool false] from (k47_mkM _ _ _ (⟨2, (⟨#[115, 99, 114, 105, 112, 116]⟩ : ByteArray), (⟨#[]⟩ : ByteArray), ([] : List (S51)), false⟩ : S47) (Kd.R_nil _ _ _ _ _))) (Reps.c5 (show Kd.M k47 _ _ _ (⟨0, (⟨#[]⟩ : ByteArray), (⟨#[121]⟩ : ByteArray), ([] : List (S51)), false⟩ : S47) [.int .i64 0, .string (⟨#[]⟩ : ByteArray), .string (⟨#[121]⟩ : ByteArray), .slice none 0 0, .bool false] from (k47_mkM _ _ _ (⟨0, (⟨#[]⟩ : ByteArray), (⟨#[121]⟩ : ByteArray), ([] : List (S51)), false⟩ : S47) (Kd.R_nil _ _ _ _ _))) (Reps.none _ _)))))); intro v128 w25 ho26 hb hg_ hnew_; clear hg_ hnew_; (first | rw [← Ny127.out] at ho26 | (simp only [Int.reduceToNat] at ho26; rw [← Ny127.out] at ho26)); have n0_ := Aside0.mk (Kd.S_elder' (by (with_reducible repeat (first | apply Kd.S_alloc | apply Kd.S_drewN | apply Kd.S_drew)); exact HO126.out) (Kd.S_base ho26) hb); have n1_ := Aside0.mk (Kd.S_lower (Kd.S_new' ho26 (Kd.S_lt (by (with_reducible repeat (first | apply Kd.S_alloc | apply Kd.S_drewN | apply Kd.S_drew)); exact HO126.out))) (below_size (by repeat (first | (with_reducible first | exact HB.out | apply below_alloc | apply pw_below_drewN | apply below_drew1) | exact HB.out)))); have n2_ := Aside0.mk (below_step (by repeat (first | (with_reducible first | exact HB.out | apply below_alloc | apply pw_below_drewN | apply below_drew1) | exact HB.out)) hb); clear HO126; clear HB; have HO126 := n0_; have HO129 := n1_; have HB := n2_; clear n0_ n1_ n2_; clear hb ho26; obtain ⟨Ao27, co27, eo27⟩ := Kd.S_slice HO126.out; subst eo27) | ((with_reducible refine gate_callee (f := 27) rfl ?_); refine goesL_ (some 14) rfl rfl Try.func27 (by kernel_rfl) rfl #[.slice Ao27 y124.length co27] rfl (by (try simp only [List.map_toArray, List.map_cons, List.map_nil]); first | done | rfl | (simp only [List.length_drop, List.length_take]; rfl)) ?_; (with_reducible refine (render_Render.calls _ _ y124 t130 _ ?side1 ?side2 A1.out).mono ?_); (case side1 => repeat (first | exact (Kd.S_reads' HO126.out).2.2 | (with_reducible refine Kd.C_alloc ?_ _) | (with_reducible refine Kd.C_drewN ?_ _) | (with_reducible refine Kd.C_drew ?_))); (case side2 => exact (Kd.S_reads' HO126.out).2.1); rintro e w28 ⟨rfl, hb⟩; refine ⟨_, rfl, ?_⟩; have n0_ := Aside0.mk (Kd.S_below (by (with_reducible repeat (first | apply Kd.S_alloc | apply Kd.S_drewN | apply Kd.S_drew)); exact HO126.out) hb); have n1_ := Aside0.mk (Kd.S_below (by (with_reducible repeat (first | apply Kd.S_alloc | apply Kd.S_drewN | apply Kd.S_drew)); exact HO129.out) hb); have n2_ := Aside0.mk (below_step (by repeat (first | (with_reducible first | exact HB.out | apply below_alloc | apply pw_below_drewN | apply below_drew1) | exact HB.out)) hb); clear HO126; clear HO129; clear HB; have HO126 := n0_; have HO129 := n1_; have HB := n2_; clear n0_ n1_ n2_; (try clear hb); (try clear hb2); (try clear hk); (try clear hi)))
    go_ret
    exact ⟨by first | rfl | (simp [errW_none, errW_some] <;> rfl) | (simp [*, errW_none, errW_some] <;> rfl), by repeat (first | (with_reducible first | exact HB.out | apply below_alloc | apply pw_below_drewN | apply below_drew1) | exact HB.out)⟩

end Go.Proofs.Ytaejicolhliecaa.PRe

/- What Render tells, to be reckoned by the kernel; the chapter's examples; what lets a law over tokens off. -/
set_option linter.unusedVariables false
set_option linter.unusedSimpArgs false
namespace Go.Proofs.Ytaejicolhliecaa.Rend
open Go.RowKit Go.Proofs.Ytaejicolhliecaa.Flow Go.Proofs.Ytaejicolhliecaa.PRe Go.Proofs.YtaejicolhliecaaW.PrintWords Go.Proofs.YtaejicolhliecaaW.PrintLast

def hasD (L : List ByteArray) (s : ByteArray) : Bool := L.any (fun x => s.data.toList == x.data.toList)
def linesD (s : ByteArray) : Int := if hasD L2 s = true then 2 else if hasD LA s = true then 1 else if hasD LB s = true then 1 else 0
def brD (n : ByteArray) (m : M) : M := if n.data.toList = tBr then m.line else m
def tagD (n : ByteArray) (m : M) : M := if linesD n = 0 then brD n m else (brD n m).brk (linesD n)
def noHeadD (l : List ByteArray) : List ByteArray := l.filter (fun x => !(x.data.toList == tHead))
def bodyD (n : ByteArray) (l : List ByteArray) : List ByteArray := if n.data.toList = tBody then noHeadD l else l
def lastD (n : ByteArray) : List ByteArray → Option Nat
  | [] => Option.none
  | x :: l => match lastD n l with
    | some i => some (i + 1)
    | Option.none => if x.data.toList = n.data.toList then some 0 else Option.none
def isNil (l : List ByteArray) : Bool := match l with | [] => true | _ :: _ => false
def startD (n : ByteArray) (s : Pg) : Pg :=
  if hasD LH n = true then { s with names := bodyD n s.names ++ [n] }
  else if isNil (bodyD n s.names) = true then { names := [], kept := if hasD LK n = true then s.kept + 1 else s.kept, m := tagD n s.m }
  else { s with names := bodyD n s.names }
def closeD (n : ByteArray) (s : Pg) : Pg :=
  match lastD n s.names with
  | some i => { s with names := s.names.take i }
  | Option.none => if isNil s.names = true then { s with kept := if hasD LK n = true then s.kept - 1 else s.kept, m := tagD n s.m } else s
def textD (t : ByteArray) (s : Pg) : Pg := if isNil s.names = true then { s with m := s.m.put (decide (0 < s.kept)) t.data.toList } else s
def stepD (x : S47) (s : Pg) : Pg := if x.f0 = 1 then startD x.f1 s else if x.f0 = 2 then closeD x.f1 s else if x.f0 = 0 then textD x.f2 s else s
def allD (l : List S47) (s : Pg) : Pg := l.foldl (fun s x => stepD x s) s

theorem hasN_D (L : List ByteArray) (s : ByteArray) : hasN L s = hasD L s := has_data L s
theorem linesN_D (s : ByteArray) : linesN s = linesD s := by unfold linesN linesD; simp only [hasN_D]
theorem tagM_D (n : ByteArray) (m : M) : tagM n m = tagD n m := by unfold tagM tagD brM brD; simp only [linesN_D, ByteArray.toList_eq]
theorem bodyN_D (n : ByteArray) (l : List ByteArray) : bodyN n l = bodyD n l := by unfold bodyN bodyD noHead noHeadD; simp only [ByteArray.toList_eq]
theorem lastN_D (n : ByteArray) : ∀ l : List ByteArray, lastN n l = lastD n l
  | [] => rfl
  | x :: l => by
    simp only [lastN, lastD, lastN_D n l, ByteArray.toList_eq]
    cases lastD n l <;> rfl
theorem isNil_iff (l : List ByteArray) : isNil l = true ↔ l = [] := by cases l <;> simp [isNil]
theorem step_D (x : S47) (s : Pg) : s.step x = stepD x s := by
  unfold Pg.step stepD Pg.start startD Pg.close closeD Pg.text textD
  simp only [hasN_D, tagM_D, bodyN_D, lastN_D, isNil_iff]
  cases lastD x.f1 s.names <;> rfl
theorem all_D (l : List S47) (s : Pg) : Pg.all l s = allD l s := by
  unfold Pg.all allD
  congr 1
  funext s x
  exact step_D x s

/-- What Render tells, as bytes. -/
def told (l : List S47) : List UInt8 := (Pg.all l Pg.none).m.told
def toldD (l : List S47) : List UInt8 := (allD l Pg.none).m.told
theorem told_D (l : List S47) : told l = toldD l := by unfold told toldD; rw [all_D]
theorem render_eq {l : List S47} (h : fits l = true) : render_Render.f l = some ⟨(told l).toArray⟩ := by unfold render_Render.f; rw [if_pos h]; rfl
theorem bytes_eq (l : List UInt8) : (⟨l.toArray⟩ : ByteArray).toList = l := by rw [ByteArray.toList_eq]

theorem awake_at : flaillaw19_awake.f = some true := by
  unfold flaillaw19_awake.f
  rw [render_eq (by decide), Option.bind_some, bytes_eq, told_D, if_pos (by decide +kernel), render_eq (by decide), Option.bind_some, bytes_eq, told_D, if_pos (by decide +kernel), render_eq (by decide), Option.bind_some, bytes_eq]
  rfl

def fewT (x : S47) : Bool := decide (x.f1.size ≤ 60) && decide (x.f2.size ≤ 200) && decide (x.f3.length ≤ 10)
def fewB (l : List S47) : Bool := decide (l.length ≤ 60) && l.all fewT
theorem few_l : ∀ (n : Nat) (l : List S47) (i : Nat), l.length ≤ i + n → l.length ≤ 1000 → flailref15_Few.l0 (n + 1) l i = some ((l.drop i).all fewT)
  | 0, l, i, h, _ => by
    unfold flailref15_Few.l0
    rw [if_neg (by omega), List.drop_eq_nil_of_le (by omega)]
    rfl
  | n + 1, l, i, h, hl => by
    unfold flailref15_Few.l0
    by_cases hi : i < l.length
    · rw [if_pos (by omega), if_pos (by omega)]
      have hd : l.drop i = l[i] :: l.drop (i + 1) := by rw [List.drop_eq_getElem_cons hi]
      have hg : rd_T47 l (i : Int) = l[i] := by simp [rd_T47, hi]
      have hw : wrap64 ((i : Int) + 1) = ((i + 1 : Nat) : Int) := by unfold wrap64; omega
      rw [hg, hd, List.all_cons, hw, few_l n l (i + 1) (by omega) hl]
      unfold fewT
      by_cases h1 : l[i].f1.size ≤ 60
      · rw [if_neg (by omega)]
        by_cases h2 : l[i].f2.size ≤ 200
        · rw [if_neg (by omega)]
          by_cases h3 : l[i].f3.length ≤ 10
          · rw [if_neg (by omega)]
            simp [h1, h2, h3]
          · rw [if_pos (by omega)]
            simp [h1, h2, h3]
        · rw [if_pos (by omega)]
          simp [h1, h2]
      · rw [if_pos (by omega)]
        simp [h1]
    · rw [if_neg (by omega), List.drop_eq_nil_of_le (by omega)]
      rfl
theorem few_at (l : List S47) : flailref15_Few.f (l.length + 1) l = some (fewB l) := by
  unfold flailref15_Few.f fewB
  by_cases h : l.length ≤ 60
  · rw [if_neg (by omega)]
    have := few_l l.length l 0 (by omega) (by omega)
    rw [List.drop_zero] at this
    rw [show ((0 : Nat) : Int) = 0 from rfl] at this
    rw [this]
    simp [h]
  · rw [if_pos (by omega)]
    simp [h]
theorem few_all {l : List S47} (h : fewB l = true) : l.length ≤ 60 ∧ ∀ x ∈ l, x.f1.size ≤ 60 ∧ x.f2.size ≤ 200 := by
  unfold fewB fewT at h
  simp only [Bool.and_eq_true, decide_eq_true_eq, List.all_eq_true] at h
  exact ⟨h.1, fun x hx => ⟨(h.2 x hx).1.1, (h.2 x hx).1.2⟩⟩
theorem fits_mk {l : List S47} (h1 : l.length ≤ 2000) (h2 : ∀ x ∈ l, x.f2.size ≤ 10000) (h3 : ∀ x ∈ l, (Lit.int .i64 x.f0).wf = true) : fits l = true := by
  unfold fits
  simp only [Bool.and_eq_true, decide_eq_true_eq, List.all_eq_true]
  exact ⟨h1, fun x hx => ⟨h2 x hx, h3 x hx⟩⟩
theorem few_fits {l : List S47} (h : fewB l = true) (hw : ∀ x ∈ l, (Lit.int .i64 x.f0).wf = true) : fits l = true := by
  have := few_all h
  exact fits_mk (by omega) (fun x hx => by have := (this.2 x hx).2; omega) hw
end Go.Proofs.Ytaejicolhliecaa.Rend

/- A slice of tokens, as it came in: a list of them, with its cells, and their attributes'. -/
set_option linter.unusedVariables false
namespace Go.Proofs.Ytaejicolhliecaa.Toks
open Go.Deep Go.RowKit Go.Proofs.Ytaejicolhliecaa.PRe Go.Proofs.YtaejicolhliecaaW.PrintWords

theorem tokFields : ∃ fs : Array Field, Try.prog.underlying 47 = some (.struct fs) ∧ fs.map (fun f => (f.type, f.offset)) = #[(3, 0), (9, 1), (9, 2), (45, 3), (4, 4)] := ⟨_, Try.underlying47, by simp⟩
theorem attrFields : ∃ fs : Array Field, Try.prog.underlying 51 = some (.struct fs) ∧ fs.map (fun f => (f.type, f.offset)) = #[(9, 0), (9, 1)] := ⟨_, Try.underlying51, by simp⟩
theorem tokCells : Try.prog.cellsOf 47 = 5 := by kernel_rfl
theorem attrCells : Try.prog.cellsOf 51 = 2 := by kernel_rfl
theorem attrsCells : Try.prog.cellsOf 45 = 1 := by kernel_rfl
theorem intCells : Try.prog.cellsOf 3 = 1 := by kernel_rfl
theorem strCells1 : Try.prog.cellsOf 9 = 1 := by kernel_rfl
theorem boolCells : Try.prog.cellsOf 4 = 1 := by kernel_rfl

theorem two {α : Type} : ∀ (l : List α), l.length = 2 → ∃ a b, l = [a, b]
  | [a, b], _ => ⟨a, b, rfl⟩
theorem five {α : Type} : ∀ (l : List α), l.length = 5 → ∃ a b c d e, l = [a, b, c, d, e]
  | [a, b, c, d, e], _ => ⟨a, b, c, d, e, rfl⟩
instance : Inhabited S47 := ⟨z47⟩
instance : Inhabited S51 := ⟨z51⟩

section
variable {H : Type} {enc : TypeId × Value → H} {W : World} {base : Nat} {spare : Nat → Bool} {held : Bool}

theorem open_attr {n : Nat} {cs : List Value} {y : DataW H × List MemPlace} (h : DataW.trod enc Try.prog W base spare held n 51 cs = some y) : ∃ x : S51, cs = [.string x.f0, .string x.f1] := by
  obtain ⟨fs, hu, hp⟩ := attrFields
  obtain ⟨xs, k, _, _, hl, hxl, hf⟩ := DataW.trod_struct hu h
  rw [attrCells] at hl
  have hfs : fs.size = 2 := by have := congrArg Array.size hp; simpa using this
  have g : ∀ (i : Nat) (t : TypeId × Nat), (#[(9, 0), (9, 1)] : Array (TypeId × Nat))[i]? = some t → DataW.trod enc Try.prog W base spare held k t.1 ((cs.drop t.2).take (Try.prog.cellsOf t.1)) = xs[i]? := by
    intro i t ht
    rw [← hp, Array.getElem?_map] at ht
    obtain ⟨f, hf1, rfl⟩ := Option.map_eq_some_iff.1 ht
    exact hf i f hf1
  have g0 := g 0 (9, 0) rfl
  have g1 := g 1 (9, 1) rfl
  rw [hfs] at hxl
  obtain ⟨y0, y1, rfl⟩ := two xs hxl
  obtain ⟨v0, v1, rfl⟩ := two cs hl
  simp only [strCells1, List.drop_zero, List.drop_succ_cons, List.take_succ_cons, List.take_zero, List.getElem?_cons_zero, List.getElem?_cons_succ] at g0 g1
  obtain ⟨s0, e0, _, _⟩ := DataW.trod_string Try.underlying9 g0
  obtain ⟨s1, e1, _, _⟩ := DataW.trod_string Try.underlying9 g1
  simp only [List.cons.injEq, and_true] at e0 e1
  subst e0 e1
  exact ⟨⟨s0, s1⟩, rfl⟩

theorem open_attrs {fuel : Nat} {v : Value} {y : DataW H × List MemPlace} (hf : DataW.trod enc Try.prog W base spare held fuel 45 [v] = some y) :
    ∃ (A : Option Addr) (c : Nat) (l : List S51), v = .slice A l.length c ∧ l.length ≤ c ∧ Kd.C k51 W A l.length l := by
  rcases open_slice Try.underlying45 hf with ⟨hcs, _⟩ | ⟨ad, l, c, m, n, D, Pl, hcs, hb, hl, hm, hmm, _, each⟩
  · simp at hcs
    subst hcs
    exact ⟨none, 0, [], rfl, Nat.le_refl _, ⟨rfl, by simp, fun h => absurd h (by simp)⟩⟩
  · simp at hcs
    subst hcs
    have hlm : l ≤ m := by rw [hmm]; split <;> omega
    rw [attrCells] at each
    obtain ⟨q, hq⟩ := choose_lt (α := S51) (n := m) (p := fun i x => W.cells? base (ad.add (i * 2)) 2 = some [.string x.f0, .string x.f1]) (fun i hi => by
      obtain ⟨cs', h1, h2⟩ := each i hi
      obtain ⟨x, e⟩ := open_attr h2
      exact ⟨x, by rw [h1, e]⟩)
    refine ⟨some ad, c, (List.range l).map q, by simp, by simpa using hl, ⟨rfl, by simp; unfold maxLen at hm; omega, fun _ => ⟨ad, rfl, ?_⟩⟩⟩
    intro j p hp
    rw [List.getElem?_map] at hp
    obtain ⟨i, hi, rfl⟩ := Option.map_eq_some_iff.1 hp
    obtain ⟨hj, e⟩ := List.getElem?_eq_some_iff.1 hi
    simp at hj e
    subst e
    have h1 := hq j (by omega)
    obtain ⟨_, _, hcell⟩ := World.cells?_some h1
    refine ⟨_, rfl, k51_mk W (q j), fun i u hu => ?_⟩
    have hi2 : i < 2 := by
      have := (List.getElem?_eq_some_iff.1 hu).1
      simpa using this
    have := hcell i hi2
    rw [Go.Deep.add_add] at this
    exact this.trans hu

theorem open_tok {n : Nat} {cs : List Value} {y : DataW H × List MemPlace} (h : DataW.trod enc Try.prog W base spare held n 47 cs = some y) : ∃ x : S47, k47.K W x cs ∧ cs.length = 5 ∧ (Lit.int .i64 x.f0).wf = true := by
  obtain ⟨fs, hu, hp⟩ := tokFields
  obtain ⟨xs, k, _, _, hl, hxl, hf⟩ := DataW.trod_struct hu h
  rw [tokCells] at hl
  have hfs : fs.size = 5 := by have := congrArg Array.size hp; simpa using this
  have g : ∀ (i : Nat) (t : TypeId × Nat), (#[(3, 0), (9, 1), (9, 2), (45, 3), (4, 4)] : Array (TypeId × Nat))[i]? = some t → DataW.trod enc Try.prog W base spare held k t.1 ((cs.drop t.2).take (Try.prog.cellsOf t.1)) = xs[i]? := by
    intro i t ht
    rw [← hp, Array.getElem?_map] at ht
    obtain ⟨f, hf1, rfl⟩ := Option.map_eq_some_iff.1 ht
    exact hf i f hf1
  have g0 := g 0 (3, 0) rfl
  have g1 := g 1 (9, 1) rfl
  have g2 := g 2 (9, 2) rfl
  have g3 := g 3 (45, 3) rfl
  have g4 := g 4 (4, 4) rfl
  rw [hfs] at hxl
  obtain ⟨y0, y1, y2, y3, y4, rfl⟩ := five xs hxl
  obtain ⟨v0, v1, v2, v3, v4, rfl⟩ := five cs hl
  simp only [intCells, strCells1, boolCells, attrsCells, List.drop_zero, List.drop_succ_cons, List.take_succ_cons, List.take_zero, List.getElem?_cons_zero, List.getElem?_cons_succ] at g0 g1 g2 g3 g4
  obtain ⟨k0, e0, _, hw⟩ := DataW.trod_int Try.underlying3 g0
  obtain ⟨s1, e1, _, _⟩ := DataW.trod_string Try.underlying9 g1
  obtain ⟨s2, e2, _, _⟩ := DataW.trod_string Try.underlying9 g2
  obtain ⟨A3, c3, l3, e3, hl3, hc3⟩ := open_attrs g3
  obtain ⟨b4, e4, _⟩ := DataW.trod_bool Try.underlying4 g4
  simp only [List.cons.injEq, and_true] at e0 e1 e2 e4
  subst e0 e1 e2 e3 e4
  exact ⟨⟨k0, s1, s2, l3, b4⟩, k47_mk W ⟨k0, s1, s2, l3, b4⟩ hl3 hc3, rfl, hw⟩

theorem open_toks {a : Option Addr} {len cap : Nat} {d : DataW H} {ps : List MemPlace} (h : DataW.Trod enc Try.prog W base spare held 41 (.slice a len cap) d ps) :
    ∃ l : List S47, l.length = len ∧ len ≤ cap ∧ Kd.C k47 W a l.length l ∧ ∀ x ∈ l, (Lit.int .i64 x.f0).wf = true := by
  obtain ⟨fuel, hf⟩ := h
  rcases open_slice Try.underlying41 hf with ⟨hcs, _⟩ | ⟨ad, l, c, m, n, D, Pl, hcs, hb, hl, hm, hmm, _, each⟩
  · simp [Value.cells] at hcs
    obtain ⟨rfl, rfl, rfl⟩ := hcs
    exact ⟨[], rfl, Nat.le_refl _, ⟨rfl, by simp, fun h => absurd h (by simp)⟩, by simp⟩
  · simp [Value.cells] at hcs
    obtain ⟨rfl, rfl, rfl⟩ := hcs
    have hlm : len ≤ m := by rw [hmm]; split <;> omega
    rw [tokCells] at each
    obtain ⟨q, hq⟩ := choose_lt (α := S47) (n := m) (p := fun i x => ∃ cs, W.cells? base (ad.add (i * 5)) 5 = some cs ∧ k47.K W x cs ∧ cs.length = 5 ∧ (Lit.int .i64 x.f0).wf = true) (fun i hi => by
      obtain ⟨cs', h1, h2⟩ := each i hi
      obtain ⟨x, e1, e2, e3⟩ := open_tok h2
      exact ⟨x, cs', h1, e1, e2, e3⟩)
    refine ⟨(List.range len).map q, by simp, hl, ⟨rfl, by simp; unfold maxLen at hm; omega, fun _ => ⟨ad, rfl, ?_⟩⟩, ?_⟩
    · intro j p hp
      rw [List.getElem?_map] at hp
      obtain ⟨i, hi, rfl⟩ := Option.map_eq_some_iff.1 hp
      obtain ⟨hj, e⟩ := List.getElem?_eq_some_iff.1 hi
      simp at hj e
      subst e
      obtain ⟨cs, h1, h2, h3, _⟩ := hq j (by omega)
      obtain ⟨_, _, hcell⟩ := World.cells?_some h1
      refine ⟨cs, h3, h2, fun i u hu => ?_⟩
      have hi5 : i < 5 := by
        have := (List.getElem?_eq_some_iff.1 hu).1
        omega
      have := hcell i hi5
      rw [Go.Deep.add_add] at this
      exact this.trans hu
    · intro x hx
      simp only [List.mem_map, List.mem_range] at hx
      obtain ⟨i, hi, rfl⟩ := hx
      obtain ⟨_, _, _, _, h4⟩ := hq i (by omega)
      exact h4
end
end Go.Proofs.Ytaejicolhliecaa.Toks
