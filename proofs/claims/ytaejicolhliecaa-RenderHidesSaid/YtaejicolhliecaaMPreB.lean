/- Several texts of this claim, laid together into one file. -/
import Derived.Test.YtaejicolhliecaaMPreA
set_option linter.unusedSimpArgs false
set_option linter.unusedVariables false
/- Written by a program of this session out of the translation, for this claim: a part of the walk of what the law calls, or the row of the law. -/
namespace Go.Proofs.Ytaejicolhliecaa.PRe
open Go.RowKit Go.Proofs.YtaejicolhliecaaW.PrintWords Go.Proofs.YtaejicolhliecaaW.PrintLast Go.Proofs.YtaejicolhliecaaW.PrintMore
attribute [local go_sem] max2_int min2_int max_two min_two max_three min_three max_four min_four   -- for this text's walks alone
set_option linter.unusedVariables false
set_option linter.unusedSimpArgs false

/-! ### flailref17_Names: function 30 -/
def flailref17_Names.f  : Option (List ByteArray) := some (([(⟨#[104, 101, 97, 100]⟩ : ByteArray), (⟨#[105, 102, 114, 97, 109, 101]⟩ : ByteArray), (⟨#[110, 111, 101, 109, 98, 101, 100]⟩ : ByteArray), (⟨#[110, 111, 102, 114, 97, 109, 101, 115]⟩ : ByteArray), (⟨#[110, 111, 115, 99, 114, 105, 112, 116]⟩ : ByteArray), (⟨#[115, 99, 114, 105, 112, 116]⟩ : ByteArray), (⟨#[115, 116, 121, 108, 101]⟩ : ByteArray), (⟨#[116, 101, 109, 112, 108, 97, 116, 101]⟩ : ByteArray), (⟨#[116, 105, 116, 108, 101]⟩ : ByteArray), (⟨#[108, 105, 115, 116, 105, 110, 103]⟩ : ByteArray), (⟨#[112, 108, 97, 105, 110, 116, 101, 120, 116]⟩ : ByteArray), (⟨#[112, 114, 101]⟩ : ByteArray), (⟨#[116, 101, 120, 116, 97, 114, 101, 97]⟩ : ByteArray), (⟨#[120, 109, 112]⟩ : ByteArray), (⟨#[97, 114, 101, 97]⟩ : ByteArray), (⟨#[98, 97, 115, 101]⟩ : ByteArray), (⟨#[98, 114]⟩ : ByteArray), (⟨#[99, 111, 108]⟩ : ByteArray), (⟨#[101, 109, 98, 101, 100]⟩ : ByteArray), (⟨#[104, 114]⟩ : ByteArray), (⟨#[105, 109, 103]⟩ : ByteArray), (⟨#[105, 110, 112, 117, 116]⟩ : ByteArray), (⟨#[108, 105, 110, 107]⟩ : ByteArray), (⟨#[109, 101, 116, 97]⟩ : ByteArray), (⟨#[115, 111, 117, 114, 99, 101]⟩ : ByteArray), (⟨#[116, 114, 97, 99, 107]⟩ : ByteArray), (⟨#[119, 98, 114]⟩ : ByteArray), (⟨#[98, 108, 111, 99, 107, 113, 117, 111, 116, 101]⟩ : ByteArray), (⟨#[104, 49]⟩ : ByteArray), (⟨#[104, 50]⟩ : ByteArray), (⟨#[104, 51]⟩ : ByteArray), (⟨#[104, 52]⟩ : ByteArray), (⟨#[104, 53]⟩ : ByteArray), (⟨#[104, 54]⟩ : ByteArray), (⟨#[111, 108]⟩ : ByteArray), (⟨#[112]⟩ : ByteArray), (⟨#[116, 97, 98, 108, 101]⟩ : ByteArray), (⟨#[117, 108]⟩ : ByteArray), (⟨#[97, 100, 100, 114, 101, 115, 115]⟩ : ByteArray), (⟨#[97, 114, 116, 105, 99, 108, 101]⟩ : ByteArray), (⟨#[97, 115, 105, 100, 101]⟩ : ByteArray), (⟨#[98, 111, 100, 121]⟩ : ByteArray), (⟨#[99, 101, 110, 116, 101, 114]⟩ : ByteArray), (⟨#[100, 100]⟩ : ByteArray), (⟨#[100, 101, 116, 97, 105, 108, 115]⟩ : ByteArray), (⟨#[100, 105, 97, 108, 111, 103]⟩ : ByteArray), (⟨#[100, 105, 114]⟩ : ByteArray), (⟨#[100, 105, 118]⟩ : ByteArray), (⟨#[100, 108]⟩ : ByteArray), (⟨#[100, 116]⟩ : ByteArray), (⟨#[102, 105, 101, 108, 100, 115, 101, 116]⟩ : ByteArray), (⟨#[102, 105, 103, 99, 97, 112, 116, 105, 111, 110]⟩ : ByteArray), (⟨#[102, 105, 103, 117, 114, 101]⟩ : ByteArray), (⟨#[102, 111, 111, 116, 101, 114]⟩ : ByteArray), (⟨#[102, 111, 114, 109]⟩ : ByteArray), (⟨#[104, 101, 97, 100, 101, 114]⟩ : ByteArray), (⟨#[104, 103, 114, 111, 117, 112]⟩ : ByteArray), (⟨#[104, 116, 109, 108]⟩ : ByteArray), (⟨#[108, 101, 103, 101, 110, 100]⟩ : ByteArray), (⟨#[108, 105]⟩ : ByteArray), (⟨#[109, 97, 105, 110]⟩ : ByteArray), (⟨#[109, 101, 110, 117]⟩ : ByteArray), (⟨#[110, 97, 118]⟩ : ByteArray), (⟨#[111, 112, 116, 105, 111, 110]⟩ : ByteArray), (⟨#[115, 101, 97, 114, 99, 104]⟩ : ByteArray), (⟨#[115, 101, 99, 116, 105, 111, 110]⟩ : ByteArray), (⟨#[115, 117, 109, 109, 97, 114, 121]⟩ : ByteArray), (⟨#[116, 114]⟩ : ByteArray), (⟨#[98]⟩ : ByteArray), (⟨#[97]⟩ : ByteArray), (⟨#[104, 55]⟩ : ByteArray), (⟨#[116, 100]⟩ : ByteArray), (⟨#[]⟩ : ByteArray), (⟨#[80]⟩ : ByteArray), (⟨#[113]⟩ : ByteArray), (⟨#[115, 112, 97, 110]⟩ : ByteArray), (⟨#[116, 104]⟩ : ByteArray), (⟨#[115, 118, 103]⟩ : ByteArray)] : List ByteArray))
set_option maxHeartbeats 8000000 in
set_option maxRecDepth 100000 in
theorem flailref17_Names.calls  (r : List ByteArray) (w : World) (h : flailref17_Names.f  = some r) :
    Calls Try.prog 30 #[] w fun e w' => ∃ v0_ : Value, e = .returned (v0_) ∧ Kd.R Kd.string 9 w' w.heap.size (fun _ => True) v0_ r ∧ Below w.heap.size w w' := by
  have HB := Aside0.mk (Below.refl w.heap.size w)
  have H : (some (([(⟨#[104, 101, 97, 100]⟩ : ByteArray), (⟨#[105, 102, 114, 97, 109, 101]⟩ : ByteArray), (⟨#[110, 111, 101, 109, 98, 101, 100]⟩ : ByteArray), (⟨#[110, 111, 102, 114, 97, 109, 101, 115]⟩ : ByteArray), (⟨#[110, 111, 115, 99, 114, 105, 112, 116]⟩ : ByteArray), (⟨#[115, 99, 114, 105, 112, 116]⟩ : ByteArray), (⟨#[115, 116, 121, 108, 101]⟩ : ByteArray), (⟨#[116, 101, 109, 112, 108, 97, 116, 101]⟩ : ByteArray), (⟨#[116, 105, 116, 108, 101]⟩ : ByteArray), (⟨#[108, 105, 115, 116, 105, 110, 103]⟩ : ByteArray), (⟨#[112, 108, 97, 105, 110, 116, 101, 120, 116]⟩ : ByteArray), (⟨#[112, 114, 101]⟩ : ByteArray), (⟨#[116, 101, 120, 116, 97, 114, 101, 97]⟩ : ByteArray), (⟨#[120, 109, 112]⟩ : ByteArray), (⟨#[97, 114, 101, 97]⟩ : ByteArray), (⟨#[98, 97, 115, 101]⟩ : ByteArray), (⟨#[98, 114]⟩ : ByteArray), (⟨#[99, 111, 108]⟩ : ByteArray), (⟨#[101, 109, 98, 101, 100]⟩ : ByteArray), (⟨#[104, 114]⟩ : ByteArray), (⟨#[105, 109, 103]⟩ : ByteArray), (⟨#[105, 110, 112, 117, 116]⟩ : ByteArray), (⟨#[108, 105, 110, 107]⟩ : ByteArray), (⟨#[109, 101, 116, 97]⟩ : ByteArray), (⟨#[115, 111, 117, 114, 99, 101]⟩ : ByteArray), (⟨#[116, 114, 97, 99, 107]⟩ : ByteArray), (⟨#[119, 98, 114]⟩ : ByteArray), (⟨#[98, 108, 111, 99, 107, 113, 117, 111, 116, 101]⟩ : ByteArray), (⟨#[104, 49]⟩ : ByteArray), (⟨#[104, 50]⟩ : ByteArray), (⟨#[104, 51]⟩ : ByteArray), (⟨#[104, 52]⟩ : ByteArray), (⟨#[104, 53]⟩ : ByteArray), (⟨#[104, 54]⟩ : ByteArray), (⟨#[111, 108]⟩ : ByteArray), (⟨#[112]⟩ : ByteArray), (⟨#[116, 97, 98, 108, 101]⟩ : ByteArray), (⟨#[117, 108]⟩ : ByteArray), (⟨#[97, 100, 100, 114, 101, 115, 115]⟩ : ByteArray), (⟨#[97, 114, 116, 105, 99, 108, 101]⟩ : ByteArray), (⟨#[97, 115, 105, 100, 101]⟩ : ByteArray), (⟨#[98, 111, 100, 121]⟩ : ByteArray), (⟨#[99, 101, 110, 116, 101, 114]⟩ : ByteArray), (⟨#[100, 100]⟩ : ByteArray), (⟨#[100, 101, 116, 97, 105, 108, 115]⟩ : ByteArray), (⟨#[100, 105, 97, 108, 111, 103]⟩ : ByteArray), (⟨#[100, 105, 114]⟩ : ByteArray), (⟨#[100, 105, 118]⟩ : ByteArray), (⟨#[100, 108]⟩ : ByteArray), (⟨#[100, 116]⟩ : ByteArray), (⟨#[102, 105, 101, 108, 100, 115, 101, 116]⟩ : ByteArray), (⟨#[102, 105, 103, 99, 97, 112, 116, 105, 111, 110]⟩ : ByteArray), (⟨#[102, 105, 103, 117, 114, 101]⟩ : ByteArray), (⟨#[102, 111, 111, 116, 101, 114]⟩ : ByteArray), (⟨#[102, 111, 114, 109]⟩ : ByteArray), (⟨#[104, 101, 97, 100, 101, 114]⟩ : ByteArray), (⟨#[104, 103, 114, 111, 117, 112]⟩ : ByteArray), (⟨#[104, 116, 109, 108]⟩ : ByteArray), (⟨#[108, 101, 103, 101, 110, 100]⟩ : ByteArray), (⟨#[108, 105]⟩ : ByteArray), (⟨#[109, 97, 105, 110]⟩ : ByteArray), (⟨#[109, 101, 110, 117]⟩ : ByteArray), (⟨#[110, 97, 118]⟩ : ByteArray), (⟨#[111, 112, 116, 105, 111, 110]⟩ : ByteArray), (⟨#[115, 101, 97, 114, 99, 104]⟩ : ByteArray), (⟨#[115, 101, 99, 116, 105, 111, 110]⟩ : ByteArray), (⟨#[115, 117, 109, 109, 97, 114, 121]⟩ : ByteArray), (⟨#[116, 114]⟩ : ByteArray), (⟨#[98]⟩ : ByteArray), (⟨#[97]⟩ : ByteArray), (⟨#[104, 55]⟩ : ByteArray), (⟨#[116, 100]⟩ : ByteArray), (⟨#[]⟩ : ByteArray), (⟨#[80]⟩ : ByteArray), (⟨#[113]⟩ : ByteArray), (⟨#[115, 112, 97, 110]⟩ : ByteArray), (⟨#[116, 104]⟩ : ByteArray), (⟨#[115, 118, 103]⟩ : ByteArray)] : List ByteArray))) = some r := h
  clear h
  obtain ⟨y136, hy136⟩ : ∃ y_ : List ByteArray, y_ = (([(⟨#[104, 101, 97, 100]⟩ : ByteArray), (⟨#[105, 102, 114, 97, 109, 101]⟩ : ByteArray), (⟨#[110, 111, 101, 109, 98, 101, 100]⟩ : ByteArray), (⟨#[110, 111, 102, 114, 97, 109, 101, 115]⟩ : ByteArray), (⟨#[110, 111, 115, 99, 114, 105, 112, 116]⟩ : ByteArray), (⟨#[115, 99, 114, 105, 112, 116]⟩ : ByteArray), (⟨#[115, 116, 121, 108, 101]⟩ : ByteArray), (⟨#[116, 101, 109, 112, 108, 97, 116, 101]⟩ : ByteArray), (⟨#[116, 105, 116, 108, 101]⟩ : ByteArray), (⟨#[108, 105, 115, 116, 105, 110, 103]⟩ : ByteArray), (⟨#[112, 108, 97, 105, 110, 116, 101, 120, 116]⟩ : ByteArray), (⟨#[112, 114, 101]⟩ : ByteArray), (⟨#[116, 101, 120, 116, 97, 114, 101, 97]⟩ : ByteArray), (⟨#[120, 109, 112]⟩ : ByteArray), (⟨#[97, 114, 101, 97]⟩ : ByteArray), (⟨#[98, 97, 115, 101]⟩ : ByteArray), (⟨#[98, 114]⟩ : ByteArray), (⟨#[99, 111, 108]⟩ : ByteArray), (⟨#[101, 109, 98, 101, 100]⟩ : ByteArray), (⟨#[104, 114]⟩ : ByteArray), (⟨#[105, 109, 103]⟩ : ByteArray), (⟨#[105, 110, 112, 117, 116]⟩ : ByteArray), (⟨#[108, 105, 110, 107]⟩ : ByteArray), (⟨#[109, 101, 116, 97]⟩ : ByteArray), (⟨#[115, 111, 117, 114, 99, 101]⟩ : ByteArray), (⟨#[116, 114, 97, 99, 107]⟩ : ByteArray), (⟨#[119, 98, 114]⟩ : ByteArray), (⟨#[98, 108, 111, 99, 107, 113, 117, 111, 116, 101]⟩ : ByteArray), (⟨#[104, 49]⟩ : ByteArray), (⟨#[104, 50]⟩ : ByteArray), (⟨#[104, 51]⟩ : ByteArray), (⟨#[104, 52]⟩ : ByteArray), (⟨#[104, 53]⟩ : ByteArray), (⟨#[104, 54]⟩ : ByteArray), (⟨#[111, 108]⟩ : ByteArray), (⟨#[112]⟩ : ByteArray), (⟨#[116, 97, 98, 108, 101]⟩ : ByteArray), (⟨#[117, 108]⟩ : ByteArray), (⟨#[97, 100, 100, 114, 101, 115, 115]⟩ : ByteArray), (⟨#[97, 114, 116, 105, 99, 108, 101]⟩ : ByteArray), (⟨#[97, 115, 105, 100, 101]⟩ : ByteArray), (⟨#[98, 111, 100, 121]⟩ : ByteArray), (⟨#[99, 101, 110, 116, 101, 114]⟩ : ByteArray), (⟨#[100, 100]⟩ : ByteArray), (⟨#[100, 101, 116, 97, 105, 108, 115]⟩ : ByteArray), (⟨#[100, 105, 97, 108, 111, 103]⟩ : ByteArray), (⟨#[100, 105, 114]⟩ : ByteArray), (⟨#[100, 105, 118]⟩ : ByteArray), (⟨#[100, 108]⟩ : ByteArray), (⟨#[100, 116]⟩ : ByteArray), (⟨#[102, 105, 101, 108, 100, 115, 101, 116]⟩ : ByteArray), (⟨#[102, 105, 103, 99, 97, 112, 116, 105, 111, 110]⟩ : ByteArray), (⟨#[102, 105, 103, 117, 114, 101]⟩ : ByteArray), (⟨#[102, 111, 111, 116, 101, 114]⟩ : ByteArray), (⟨#[102, 111, 114, 109]⟩ : ByteArray), (⟨#[104, 101, 97, 100, 101, 114]⟩ : ByteArray), (⟨#[104, 103, 114, 111, 117, 112]⟩ : ByteArray), (⟨#[104, 116, 109, 108]⟩ : ByteArray), (⟨#[108, 101, 103, 101, 110, 100]⟩ : ByteArray), (⟨#[108, 105]⟩ : ByteArray), (⟨#[109, 97, 105, 110]⟩ : ByteArray), (⟨#[109, 101, 110, 117]⟩ : ByteArray), (⟨#[110, 97, 118]⟩ : ByteArray), (⟨#[111, 112, 116, 105, 111, 110]⟩ : ByteArray), (⟨#[115, 101, 97, 114, 99, 104]⟩ : ByteArray), (⟨#[115, 101, 99, 116, 105, 111, 110]⟩ : ByteArray), (⟨#[115, 117, 109, 109, 97, 114, 121]⟩ : ByteArray), (⟨#[116, 114]⟩ : ByteArray), (⟨#[98]⟩ : ByteArray), (⟨#[97]⟩ : ByteArray), (⟨#[104, 55]⟩ : ByteArray), (⟨#[116, 100]⟩ : ByteArray), (⟨#[]⟩ : ByteArray), (⟨#[80]⟩ : ByteArray), (⟨#[113]⟩ : ByteArray), (⟨#[115, 112, 97, 110]⟩ : ByteArray), (⟨#[116, 104]⟩ : ByteArray), (⟨#[115, 118, 103]⟩ : ByteArray)] : List ByteArray)) := ⟨_, rfl⟩
  replace H : (some y136) = some r := by first | (rw [hy136]; with_reducible exact H) | (have H2_ := (Option.bind_some _ _).symm.trans H; rw [hy136]; with_reducible exact H2_) | (have H2_ := (Option.bind_some _ _).symm.trans H; with_reducible exact H2_) | with_reducible exact H | (rw [hy136]; exact H) | exact H
  have Ny136 := Aside0.mk hy136
  clear hy136
  obtain rfl := Option.some.inj H
  go_enter Try.func30, Try.ntmps30
  go_wp2_with (first | ((with_reducible refine gate_dst (N := 1) rfl ?_); refine Kd.R_lit Kd.string _ 9 ?hg (N := 1) ?hd (xs := ([(⟨#[104, 101, 97, 100]⟩ : ByteArray), (⟨#[105, 102, 114, 97, 109, 101]⟩ : ByteArray), (⟨#[110, 111, 101, 109, 98, 101, 100]⟩ : ByteArray), (⟨#[110, 111, 102, 114, 97, 109, 101, 115]⟩ : ByteArray), (⟨#[110, 111, 115, 99, 114, 105, 112, 116]⟩ : ByteArray), (⟨#[115, 99, 114, 105, 112, 116]⟩ : ByteArray), (⟨#[115, 116, 121, 108, 101]⟩ : ByteArray), (⟨#[116, 101, 109, 112, 108, 97, 116, 101]⟩ : ByteArray), (⟨#[116, 105, 116, 108, 101]⟩ : ByteArray), (⟨#[108, 105, 115, 116, 105, 110, 103]⟩ : ByteArray), (⟨#[112, 108, 97, 105, 110, 116, 101, 120, 116]⟩ : ByteArray), (⟨#[112, 114, 101]⟩ : ByteArray), (⟨#[116, 101, 120, 116, 97, 114, 101, 97]⟩ : ByteArray), (⟨#[120, 109, 112]⟩ : ByteArray), (⟨#[97, 114, 101, 97]⟩ : ByteArray), (⟨#[98, 97, 115, 101]⟩ : ByteArray), (⟨#[98, 114]⟩ : ByteArray), (⟨#[99, 111, 108]⟩ : ByteArray), (⟨#[101, 109, 98, 101, 100]⟩ : ByteArray), (⟨#[104, 114]⟩ : ByteArray), (⟨#[105, 109, 103]⟩ : ByteArray), (⟨#[105, 110, 112, 117, 116]⟩ : ByteArray), (⟨#[108, 105, 110, 107]⟩ : ByteArray), (⟨#[109, 101, 116, 97]⟩ : ByteArray), (⟨#[115, 111, 117, 114, 99, 101]⟩ : ByteArray), (⟨#[116, 114, 97, 99, 107]⟩ : ByteArray), (⟨#[119, 98, 114]⟩ : ByteArray), (⟨#[98, 108, 111, 99, 107, 113, 117, 111, 116, 101]⟩ : ByteArray), (⟨#[104, 49]⟩ : ByteArray), (⟨#[104, 50]⟩ : ByteArray), (⟨#[104, 51]⟩ : ByteArray), (⟨#[104, 52]⟩ : ByteArray), (⟨#[104, 53]⟩ : ByteArray), (⟨#[104, 54]⟩ : ByteArray), (⟨#[111, 108]⟩ : ByteArray), (⟨#[112]⟩ : ByteArray), (⟨#[116, 97, 98, 108, 101]⟩ : ByteArray), (⟨#[117, 108]⟩ : ByteArray), (⟨#[97, 100, 100, 114, 101, 115, 115]⟩ : ByteArray), (⟨#[97, 114, 116, 105, 99, 108, 101]⟩ : ByteArray), (⟨#[97, 115, 105, 100, 101]⟩ : ByteArray), (⟨#[98, 111, 100, 121]⟩ : ByteArray), (⟨#[99, 101, 110, 116, 101, 114]⟩ : ByteArray), (⟨#[100, 100]⟩ : ByteArray), (⟨#[100, 101, 116, 97, 105, 108, 115]⟩ : ByteArray), (⟨#[100, 105, 97, 108, 111, 103]⟩ : ByteArray), (⟨#[100, 105, 114]⟩ : ByteArray), (⟨#[100, 105, 118]⟩ : ByteArray), (⟨#[100, 108]⟩ : ByteArray), (⟨#[100, 116]⟩ : ByteArray), (⟨#[102, 105, 101, 108, 100, 115, 101, 116]⟩ : ByteArray), (⟨#[102, 105, 103, 99, 97, 112, 116, 105, 111, 110]⟩ : ByteArray), (⟨#[102, 105, 103, 117, 114, 101]⟩ : ByteArray), (⟨#[102, 111, 111, 116, 101, 114]⟩ : ByteArray), (⟨#[102, 111, 114, 109]⟩ : ByteArray), (⟨#[104, 101, 97, 100, 101, 114]⟩ : ByteArray), (⟨#[104, 103, 114, 111, 117, 112]⟩ : ByteArray), (⟨#[104, 116, 109, 108]⟩ : ByteArray), (⟨#[108, 101, 103, 101, 110, 100]⟩ : ByteArray), (⟨#[108, 105]⟩ : ByteArray), (⟨#[109, 97, 105, 110]⟩ : ByteArray), (⟨#[109, 101, 110, 117]⟩ : ByteArray), (⟨#[110, 97, 118]⟩ : ByteArray), (⟨#[111, 112, 116, 105, 111, 110]⟩ : ByteArray), (⟨#[115, 101, 97, 114, 99, 104]⟩ : ByteArray), (⟨#[115, 101, 99, 116, 105, 111, 110]⟩ : ByteArray), (⟨#[115, 117, 109, 109, 97, 114, 121]⟩ : ByteArray), (⟨#[116, 114]⟩ : ByteArray), (⟨#[98]⟩ : ByteArray), (⟨#[97]⟩ : ByteArray), (⟨#[104, 55]⟩ : ByteArray), (⟨#[116, 100]⟩ : ByteArray), (⟨#[]⟩ : ByteArray), (⟨#[80]⟩ : ByteArray), (⟨#[113]⟩ : ByteArray), (⟨#[115, 112, 97, 110]⟩ : ByteArray), (⟨#[116, 104]⟩ : ByteArray), (⟨#[115, 118, 103]⟩ : ByteArray)] : List ByteArray)) (inner := [.string (⟨#[104, 101, 97, 100]⟩ : ByteArray), .string (⟨#[105, 102, 114, 97, 109, 101]⟩ : ByteArray), .string (⟨#[110, 111, 101, 109, 98, 101, 100]⟩ : ByteArray), .string (⟨#[110, 111, 102, 114, 97, 109, 101, 115]⟩ : ByteArray), .string (⟨#[110, 111, 115, 99, 114, 105, 112, 116]⟩ : ByteArray), .string (⟨#[115, 99, 114, 105, 112, 116]⟩ : ByteArray), .string (⟨#[115, 116, 121, 108, 101]⟩ : ByteArray), .string (⟨#[116, 101, 109, 112, 108, 97, 116, 101]⟩ : ByteArray), .string (⟨#[116, 105, 116, 108, 101]⟩ : ByteArray), .string (⟨#[108, 105, 115, 116, 105, 110, 103]⟩ : ByteArray), .string (⟨#[112, 108, 97, 105, 110, 116, 101, 120, 116]⟩ : ByteArray), .string (⟨#[112, 114, 101]⟩ : ByteArray), .string (⟨#[116, 101, 120, 116, 97, 114, 101, 97]⟩ : ByteArray), .string (⟨#[120, 109, 112]⟩ : ByteArray), .string (⟨#[97, 114, 101, 97]⟩ : ByteArray), .string (⟨#[98, 97, 115, 101]⟩ : ByteArray), .string (⟨#[98, 114]⟩ : ByteArray), .string (⟨#[99, 111, 108]⟩ : ByteArray), .string (⟨#[101, 109, 98, 101, 100]⟩ : ByteArray), .string (⟨#[104, 114]⟩ : ByteArray), .string (⟨#[105, 109, 103]⟩ : ByteArray), .string (⟨#[105, 110, 112, 117, 116]⟩ : ByteArray), .string (⟨#[108, 105, 110, 107]⟩ : ByteArray), .string (⟨#[109, 101, 116, 97]⟩ : ByteArray), .string (⟨#[115, 111, 117, 114, 99, 101]⟩ : ByteArray), .string (⟨#[116, 114, 97, 99, 107]⟩ : ByteArray), .string (⟨#[119, 98, 114]⟩ : ByteArray), .string (⟨#[98, 108, 111, 99, 107, 113, 117, 111, 116, 101]⟩ : ByteArray), .string (⟨#[104, 49]⟩ : ByteArray), .string (⟨#[104, 50]⟩ : ByteArray), .string (⟨#[104, 51]⟩ : ByteArray), .string (⟨#[104, 52]⟩ : ByteArray), .string (⟨#[104, 53]⟩ : ByteArray), .string (⟨#[104, 54]⟩ : ByteArray), .string (⟨#[111, 108]⟩ : ByteArray), .string (⟨#[112]⟩ : ByteArray), .string (⟨#[116, 97, 98, 108, 101]⟩ : ByteArray), .string (⟨#[117, 108]⟩ : ByteArray), .string (⟨#[97, 100, 100, 114, 101, 115, 115]⟩ : ByteArray), .string (⟨#[97, 114, 116, 105, 99, 108, 101]⟩ : ByteArray), .string (⟨#[97, 115, 105, 100, 101]⟩ : ByteArray), .string (⟨#[98, 111, 100, 121]⟩ : ByteArray), .string (⟨#[99, 101, 110, 116, 101, 114]⟩ : ByteArray), .string (⟨#[100, 100]⟩ : ByteArray), .string (⟨#[100, 101, 116, 97, 105, 108, 115]⟩ : ByteArray), .string (⟨#[100, 105, 97, 108, 111, 103]⟩ : ByteArray), .string (⟨#[100, 105, 114]⟩ : ByteArray), .string (⟨#[100, 105, 118]⟩ : ByteArray), .string (⟨#[100, 108]⟩ : ByteArray), .string (⟨#[100, 116]⟩ : ByteArray), .string (⟨#[102, 105, 101, 108, 100, 115, 101, 116]⟩ : ByteArray), .string (⟨#[102, 105, 103, 99, 97, 112, 116, 105, 111, 110]⟩ : ByteArray), .string (⟨#[102, 105, 103, 117, 114, 101]⟩ : ByteArray), .string (⟨#[102, 111, 111, 116, 101, 114]⟩ : ByteArray), .string (⟨#[102, 111, 114, 109]⟩ : ByteArray), .string (⟨#[104, 101, 97, 100, 101, 114]⟩ : ByteArray), .string (⟨#[104, 103, 114, 111, 117, 112]⟩ : ByteArray), .string (⟨#[104, 116, 109, 108]⟩ : ByteArray), .string (⟨#[108, 101, 103, 101, 110, 100]⟩ : ByteArray), .string (⟨#[108, 105]⟩ : ByteArray), .string (⟨#[109, 97, 105, 110]⟩ : ByteArray), .string (⟨#[109, 101, 110, 117]⟩ : ByteArray), .string (⟨#[110, 97, 118]⟩ : ByteArray), .string (⟨#[111, 112, 116, 105, 111, 110]⟩ : ByteArray), .string (⟨#[115, 101, 97, 114, 99, 104]⟩ : ByteArray), .string (⟨#[115, 101, 99, 116, 105, 111, 110]⟩ : ByteArray), .string (⟨#[115, 117, 109, 109, 97, 114, 121]⟩ : ByteArray), .string (⟨#[116, 114]⟩ : ByteArray), .string (⟨#[98]⟩ : ByteArray), .string (⟨#[97]⟩ : ByteArray), .string (⟨#[104, 55]⟩ : ByteArray), .string (⟨#[116, 100]⟩ : ByteArray), .string (⟨#[]⟩ : ByteArray), .string (⟨#[80]⟩ : ByteArray), .string (⟨#[113]⟩ : ByteArray), .string (⟨#[115, 112, 97, 110]⟩ : ByteArray), .string (⟨#[116, 104]⟩ : ByteArray), .string (⟨#[115, 118, 103]⟩ : ByteArray)]) (ok := fun _ => True) (okp := fun _ => True) ?hr ?hp (fun _ hk => hk) trivial (Below.refl _ _) (Nat.le_refl _) (by simp) ?_; (case hd => rfl); (case hg => rfl); (case hr => first | (go_simp; done) | (go_simp; rfl)); (case hp => exact (Reps.one (show Kd.M Kd.string _ _ _ (⟨#[104, 101, 97, 100]⟩ : ByteArray) [.string (⟨#[104, 101, 97, 100]⟩ : ByteArray)] from rfl) (Reps.one (show Kd.M Kd.string _ _ _ (⟨#[105, 102, 114, 97, 109, 101]⟩ : ByteArray) [.string (⟨#[105, 102, 114, 97, 109, 101]⟩ : ByteArray)] from rfl) (Reps.one (show Kd.M Kd.string _ _ _ (⟨#[110, 111, 101, 109, 98, 101, 100]⟩ : ByteArray) [.string (⟨#[110, 111, 101, 109, 98, 101, 100]⟩ : ByteArray)] from rfl) (Reps.one (show Kd.M Kd.string _ _ _ (⟨#[110, 111, 102, 114, 97, 109, 101, 115]⟩ : ByteArray) [.string (⟨#[110, 111, 102, 114, 97, 109, 101, 115]⟩ : ByteArray)] from rfl) (Reps.one (show Kd.M Kd.string _ _ _ (⟨#[110, 111, 115, 99, 114, 105, 112, 116]⟩ : ByteArray) [.string (⟨#[110, 111, 115, 99, 114, 105, 112, 116]⟩ : ByteArray)] from rfl) (Reps.one (show Kd.M Kd.string _ _ _ (⟨#[115, 99, 114, 105, 112, 116]⟩ : ByteArray) [.string (⟨#[115, 99, 114, 105, 112, 116]⟩ : ByteArray)] from rfl) (Reps.one (show Kd.M Kd.string _ _ _ (⟨#[115, 116, 121, 108, 101]⟩ : ByteArray) [.string (⟨#[115, 116, 121, 108, 101]⟩ : ByteArray)] from rfl) (Reps.one (show Kd.M Kd.string _ _ _ (⟨#[116, 101, 109, 112, 108, 97, 116, 101]⟩ : ByteArray) [.string (⟨#[116, 101, 109, 112, 108, 97, 116, 101]⟩ : ByteArray)] from rfl) (Reps.one (show Kd.M Kd.string _ _ _ (⟨#[116, 105, 116, 108, 101]⟩ : ByteArray) [.string (⟨#[116, 105, 116, 108, 101]⟩ : ByteArray)] from rfl) (Reps.one (show Kd.M Kd.string _ _ _ (⟨#[108, 105, 115, 116, 105, 110, 103]⟩ : ByteArray) [.string (⟨#[108, 105, 115, 116, 105, 110, 103]⟩ : ByteArray)] from rfl) (Reps.one (show Kd.M Kd.string _ _ _ (⟨#[112, 108, 97, 105, 110, 116, 101, 120, 116]⟩ : ByteArray) [.string (⟨#[112, 108, 97, 105, 110, 116, 101, 120, 116]⟩ : ByteArray)] from rfl) (Reps.one (show Kd.M Kd.string _ _ _ (⟨#[112, 114, 101]⟩ : ByteArray) [.string (⟨#[112, 114, 101]⟩ : ByteArray)] from rfl) (Reps.one (show Kd.M Kd.string _ _ _ (⟨#[116, 101, 120, 116, 97, 114, 101, 97]⟩ : ByteArray) [.string (⟨#[116, 101, 120, 116, 97, 114, 101, 97]⟩ : ByteArray)] from rfl) (Reps.one (show Kd.M Kd.string _ _ _ (⟨#[120, 109, 112]⟩ : ByteArray) [.string (⟨#[120, 109, 112]⟩ : ByteArray)] from rfl) (Reps.one (show Kd.M Kd.string _ _ _ (⟨#[97, 114, 101, 97]⟩ : ByteArray) [.string (⟨#[97, 114, 101, 97]⟩ : ByteArray)] from rfl) (Reps.one (show Kd.M Kd.string _ _ _ (⟨#[98, 97, 115, 101]⟩ : ByteArray) [.string (⟨#[98, 97, 115, 101]⟩ : ByteArray)] from rfl) (Reps.one (show Kd.M Kd.string _ _ _ (⟨#[98, 114]⟩ : ByteArray) [.string (⟨#[98, 114]⟩ : ByteArray)] from rfl) (Reps.one (show Kd.M Kd.string _ _ _ (⟨#[99, 111, 108]⟩ : ByteArray) [.string (⟨#[99, 111, 108]⟩ : ByteArray)] from rfl) (Reps.one (show Kd.M Kd.string _ _ _ (⟨#[101, 109, 98, 101, 100]⟩ : ByteArray) [.string (⟨#[101, 109, 98, 101, 100]⟩ : ByteArray)] from rfl) (Reps.one (show Kd.M Kd.string _ _ _ (⟨#[104, 114]⟩ : ByteArray) [.string (⟨#[104, 114]⟩ : ByteArray)] from rfl) (Reps.one (show Kd.M Kd.string _ _ _ (⟨#[105, 109, 103]⟩ : ByteArray) [.string (⟨#[105, 109, 103]⟩ : ByteArray)] from rfl) (Reps.one (show Kd.M Kd.string _ _ _ (⟨#[105, 110, 112, 117, 116]⟩ : ByteArray) [.string (⟨#[105, 110, 112, 117, 116]⟩ : ByteArray)] from rfl) (Reps.one (show Kd.M Kd.string _ _ _ (⟨#[108, 105, 110, 107]⟩ : ByteArray) [.string (⟨#[108, 105, 110, 107]⟩ : ByteArray)] from rfl) (Reps.one (show Kd.M Kd.string _ _ _ (⟨#[109, 101, 116, 97]⟩ : ByteArray) [.string (⟨#[109, 101, 116, 97]⟩ : ByteArray)] from rfl) (Reps.one (show Kd.M Kd.string _ _ _ (⟨#[115, 111, 117, 114, 99, 101]⟩ : ByteArray) [.string (⟨#[115, 111, 117, 114, 99, 101]⟩ : ByteArray)] from rfl) (Reps.one (show Kd.M Kd.string _ _ _ (⟨#[116, 114, 97, 99, 107]⟩ : ByteArray) [.string (⟨#[116, 114, 97, 99, 107]⟩ : ByteArray)] from rfl) (Reps.one (show Kd.M Kd.string _ _ _ (⟨#[119, 98, 114]⟩ : ByteArray) [.string (⟨#[119, 98, 114]⟩ : ByteArray)] from rfl) (Reps.one (show Kd.M Kd.string _ _ _ (⟨#[98, 108, 111, 99, 107, 113, 117, 111, 116, 101]⟩ : ByteArray) [.string (⟨#[98, 108, 111, 99, 107, 113, 117, 111, 116, 101]⟩ : ByteArray)] from rfl) (Reps.one (show Kd.M Kd.string _ _ _ (⟨#[104, 49]⟩ : ByteArray) [.string (⟨#[104, 49]⟩ : ByteArray)] from rfl) (Reps.one (show Kd.M Kd.string _ _ _ (⟨#[104, 50]⟩ : ByteArray) [.string (⟨#[104, 50]⟩ : ByteArray)] from rfl) (Reps.one (show Kd.M Kd.string _ _ _ (⟨#[104, 51]⟩ : ByteArray) [.string (⟨#[104, 51]⟩ : ByteArray)] from rfl) (Reps.one (show Kd.M Kd.string _ _ _ (⟨#[104, 52]⟩ : ByteArray) [.string (⟨#[104, 52]⟩ : ByteArray)] from rfl) (Reps.one (show Kd.M Kd.string _ _ _ (⟨#[104, 53]⟩ : ByteArray) [.string (⟨#[104, 53]⟩ : ByteArray)] from rfl) (Reps.one (show Kd.M Kd.string _ _ _ (⟨#[104, 54]⟩ : ByteArray) [.string (⟨#[104, 54]⟩ : ByteArray)] from rfl) (Reps.one (show Kd.M Kd.string _ _ _ (⟨#[111, 108]⟩ : ByteArray) [.string (⟨#[111, 108]⟩ : ByteArray)] from rfl) (Reps.one (show Kd.M Kd.string _ _ _ (⟨#[112]⟩ : ByteArray) [.string (⟨#[112]⟩ : ByteArray)] from rfl) (Reps.one (show Kd.M Kd.string _ _ _ (⟨#[116, 97, 98, 108, 101]⟩ : ByteArray) [.string (⟨#[116, 97, 98, 108, 101]⟩ : ByteArray)] from rfl) (Reps.one (show Kd.M Kd.string _ _ _ (⟨#[117, 108]⟩ : ByteArray) [.string (⟨#[117, 108]⟩ : ByteArray)] from rfl) (Reps.one (show Kd.M Kd.string _ _ _ (⟨#[97, 100, 100, 114, 101, 115, 115]⟩ : ByteArray) [.string (⟨#[97, 100, 100, 114, 101, 115, 115]⟩ : ByteArray)] from rfl) (Reps.one (show Kd.M Kd.string _ _ _ (⟨#[97, 114, 116, 105, 99, 108, 101]⟩ : ByteArray) [.string (⟨#[97, 114, 116, 105, 99, 108, 101]⟩ : ByteArray)] from rfl) (Reps.one (show Kd.M Kd.string _ _ _ (⟨#[97, 115, 105, 100, 101]⟩ : ByteArray) [.string (⟨#[97, 115, 105, 100, 101]⟩ : ByteArray)] from rfl) (Reps.one (show Kd.M Kd.string _ _ _ (⟨#[98, 111, 100, 121]⟩ : ByteArray) [.string (⟨#[98, 111, 100, 121]⟩ : ByteArray)] from rfl) (Reps.one (show Kd.M Kd.string _ _ _ (⟨#[99, 101, 110, 116, 101, 114]⟩ : ByteArray) [.string (⟨#[99, 101, 110, 116, 101, 114]⟩ : ByteArray)] from rfl) (Reps.one (show Kd.M Kd.string _ _ _ (⟨#[100, 100]⟩ : ByteArray) [.string (⟨#[100, 100]⟩ : ByteArray)] from rfl) (Reps.one (show Kd.M Kd.string _ _ _ (⟨#[100, 101, 116, 97, 105, 108, 115]⟩ : ByteArray) [.string (⟨#[100, 101, 116, 97, 105, 108, 115]⟩ : ByteArray)] from rfl) (Reps.one (show Kd.M Kd.string _ _ _ (⟨#[100, 105, 97, 108, 111, 103]⟩ : ByteArray) [.string (⟨#[100, 105, 97, 108, 111, 103]⟩ : ByteArray)] from rfl) (Reps.one (show Kd.M Kd.string _ _ _ (⟨#[100, 105, 114]⟩ : ByteArray) [.string (⟨#[100, 105, 114]⟩ : ByteArray)] from rfl) (Reps.one (show Kd.M Kd.string _ _ _ (⟨#[100, 105, 118]⟩ : ByteArray) [.string (⟨#[100, 105, 118]⟩ : ByteArray)] from rfl) (Reps.one (show Kd.M Kd.string _ _ _ (⟨#[100, 108]⟩ : ByteArray) [.string (⟨#[100, 108]⟩ : ByteArray)] from rfl) (Reps.one (show Kd.M Kd.string _ _ _ (⟨#[100, 116]⟩ : ByteArray) [.string (⟨#[100, 116]⟩ : ByteArray)] from rfl) (Reps.one (show Kd.M Kd.string _ _ _ (⟨#[102, 105, 101, 108, 100, 115, 101, 116]⟩ : ByteArray) [.string (⟨#[102, 105, 101, 108, 100, 115, 101, 116]⟩ : ByteArray)] from rfl) (Reps.one (show Kd.M Kd.string _ _ _ (⟨#[102, 105, 103, 99, 97, 112, 116, 105, 111, 110]⟩ : ByteArray) [.string (⟨#[102, 105, 103, 99, 97, 112, 116, 105, 111, 110]⟩ : ByteArray)] from rfl) (Reps.one (show Kd.M Kd.string _ _ _ (⟨#[102, 105, 103, 117, 114, 101]⟩ : ByteArray) [.string (⟨#[102, 105, 103, 117, 114, 101]⟩ : ByteArray)] from rfl) (Reps.one (show Kd.M Kd.string _ _ _ (⟨#[102, 111, 111, 116, 101, 114]⟩ : ByteArray) [.string (⟨#[102, 111, 111, 116, 101, 114]⟩ : ByteArray)] from rfl) (Reps.one (show Kd.M Kd.string _ _ _ (⟨#[102, 111, 114, 109]⟩ : ByteArray) [.string (⟨#[102, 111, 114, 109]⟩ : ByteArray)] from rfl) (Reps.one (show Kd.M Kd.string _ _ _ (⟨#[104, 101, 97, 100, 101, 114]⟩ : ByteArray) [.string (⟨#[104, 101, 97, 100, 101, 114]⟩ : ByteArray)] from rfl) (Reps.one (show Kd.M Kd.string _ _ _ (⟨#[104, 103, 114, 111, 117, 112]⟩ : ByteArray) [.string (⟨#[104, 103, 114, 111, 117, 112]⟩ : ByteArray)] from rfl) (Reps.one (show Kd.M Kd.string _ _ _ (⟨#[104, 116, 109, 108]⟩ : ByteArray) [.string (⟨#[104, 116, 109, 108]⟩ : ByteArray)] from rfl) (Reps.one (show Kd.M Kd.string _ _ _ (⟨#[108, 101, 103, 101, 110, 100]⟩ : ByteArray) [.string (⟨#[108, 101, 103, 101, 110, 100]⟩ : ByteArray)] from rfl) (Reps.one (show Kd.M Kd.string _ _ _ (⟨#[108, 105]⟩ : ByteArray) [.string (⟨#[108, 105]⟩ : ByteArray)] from rfl) (Reps.one (show Kd.M Kd.string _ _ _ (⟨#[109, 97, 105, 110]⟩ : ByteArray) [.string (⟨#[109, 97, 105, 110]⟩ : ByteArray)] from rfl) (Reps.one (show Kd.M Kd.string _ _ _ (⟨#[109, 101, 110, 117]⟩ : ByteArray) [.string (⟨#[109, 101, 110, 117]⟩ : ByteArray)] from rfl) (Reps.one (show Kd.M Kd.string _ _ _ (⟨#[110, 97, 118]⟩ : ByteArray) [.string (⟨#[110, 97, 118]⟩ : ByteArray)] from rfl) (Reps.one (show Kd.M Kd.string _ _ _ (⟨#[111, 112, 116, 105, 111, 110]⟩ : ByteArray) [.string (⟨#[111, 112, 116, 105, 111, 110]⟩ : ByteArray)] from rfl) (Reps.one (show Kd.M Kd.string _ _ _ (⟨#[115, 101, 97, 114, 99, 104]⟩ : ByteArray) [.string (⟨#[115, 101, 97, 114, 99, 104]⟩ : ByteArray)] from rfl) (Reps.one (show Kd.M Kd.string _ _ _ (⟨#[115, 101, 99, 116, 105, 111, 110]⟩ : ByteArray) [.string (⟨#[115, 101, 99, 116, 105, 111, 110]⟩ : ByteArray)] from rfl) (Reps.one (show Kd.M Kd.string _ _ _ (⟨#[115, 117, 109, 109, 97, 114, 121]⟩ : ByteArray) [.string (⟨#[115, 117, 109, 109, 97, 114, 121]⟩ : ByteArray)] from rfl) (Reps.one (show Kd.M Kd.string _ _ _ (⟨#[116, 114]⟩ : ByteArray) [.string (⟨#[116, 114]⟩ : ByteArray)] from rfl) (Reps.one (show Kd.M Kd.string _ _ _ (⟨#[98]⟩ : ByteArray) [.string (⟨#[98]⟩ : ByteArray)] from rfl) (Reps.one (show Kd.M Kd.string _ _ _ (⟨#[97]⟩ : ByteArray) [.string (⟨#[97]⟩ : ByteArray)] from rfl) (Reps.one (show Kd.M Kd.string _ _ _ (⟨#[104, 55]⟩ : ByteArray) [.string (⟨#[104, 55]⟩ : ByteArray)] from rfl) (Reps.one (show Kd.M Kd.string _ _ _ (⟨#[116, 100]⟩ : ByteArray) [.string (⟨#[116, 100]⟩ : ByteArray)] from rfl) (Reps.one (show Kd.M Kd.string _ _ _ (⟨#[]⟩ : ByteArray) [.string (⟨#[]⟩ : ByteArray)] from rfl) (Reps.one (show Kd.M Kd.string _ _ _ (⟨#[80]⟩ : ByteArray) [.string (⟨#[80]⟩ : ByteArray)] from rfl) (Reps.one (show Kd.M Kd.string _ _ _ (⟨#[113]⟩ : ByteArray) [.string (⟨#[113]⟩ : ByteArray)] from rfl) (Reps.one (show Kd.M Kd.string _ _ _ (⟨#[115, 112, 97, 110]⟩ : ByteArray) [.string (⟨#[115, 112, 97, 110]⟩ : ByteArray)] from rfl) (Reps.one (show Kd.M Kd.string _ _ _ (⟨#[116, 104]⟩ : ByteArray) [.string (⟨#[116, 104]⟩ : ByteArray)] from rfl) (Reps.one (show Kd.M Kd.string _ _ _ (⟨#[115, 118, 103]⟩ : ByteArray) [.string (⟨#[115, 118, 103]⟩ : ByteArray)] from rfl) (Reps.none _ _)))))))))))))))))))))))))))))))))))))))))))))))))))))))))))))))))))))))))))))))); intro v137 w1 ho2 hb hg_ hnew_; clear hg_ hnew_; (first | rw [← Ny136.out] at ho2 | (simp only [Int.reduceToNat] at ho2; rw [← Ny136.out] at ho2)); have n0_ := Aside0.mk (Kd.R_lower ho2 (below_size (by repeat (first | (with_reducible first | exact HB.out | apply below_alloc | apply pw_below_drewN | apply below_drew1) | exact HB.out)))); have n1_ := Aside0.mk (below_step (by repeat (first | (with_reducible first | exact HB.out | apply below_alloc | apply pw_below_drewN | apply below_drew1) | exact HB.out)) hb); clear HB; have HO138 := n0_; have HB := n1_; clear n0_ n1_; clear hb ho2))
  go_ret
  exact ⟨_, by first | rfl | (simp [errW_none, errW_some] <;> rfl) | (simp [*, errW_none, errW_some] <;> rfl), by (with_reducible repeat (first | apply Kd.R_alloc | apply Kd.R_drewN | apply Kd.R_drew)); exact HO138.out, by repeat (first | (with_reducible first | exact HB.out | apply below_alloc | apply pw_below_drewN | apply below_drew1) | exact HB.out)⟩

end Go.Proofs.Ytaejicolhliecaa.PRe

/- Written by a program of this session out of the translation, for this claim: a part of the walk of what the law calls, or the row of the law. -/
namespace Go.Proofs.Ytaejicolhliecaa.PRe
open Go.RowKit Go.Proofs.YtaejicolhliecaaW.PrintWords Go.Proofs.YtaejicolhliecaaW.PrintLast Go.Proofs.YtaejicolhliecaaW.PrintMore
attribute [local go_sem] max2_int min2_int max_two min_two max_three min_three max_four min_four   -- for this text's walks alone
set_option linter.unusedVariables false
set_option linter.unusedSimpArgs false

/-! ### flailref17_Keeps: function 41 -/
def flailref17_Keeps.f (a0 : ByteArray) : Option (Bool) := if a0.toList = ([108, 105, 115, 116, 105, 110, 103] : List UInt8) then (some true) else (if a0.toList = ([112, 108, 97, 105, 110, 116, 101, 120, 116] : List UInt8) then (some true) else (if a0.toList = ([112, 114, 101] : List UInt8) then (some true) else (if a0.toList = ([116, 101, 120, 116, 97, 114, 101, 97] : List UInt8) then (some true) else (if a0.toList = ([120, 109, 112] : List UInt8) then (some true) else (some false)))))
set_option maxHeartbeats 8000000 in
set_option maxRecDepth 100000 in
theorem flailref17_Keeps.calls (a0 : ByteArray) (r : Bool) (w : World) (h : flailref17_Keeps.f a0 = some r) :
    Calls Try.prog 41 #[.string a0] w fun e w' => e = .returned (.bool r) ∧ Drawn0 w w' := by
  have H : (if a0.toList = ([108, 105, 115, 116, 105, 110, 103] : List UInt8) then (some true) else (if a0.toList = ([112, 108, 97, 105, 110, 116, 101, 120, 116] : List UInt8) then (some true) else (if a0.toList = ([112, 114, 101] : List UInt8) then (some true) else (if a0.toList = ([116, 101, 120, 116, 97, 114, 101, 97] : List UInt8) then (some true) else (if a0.toList = ([120, 109, 112] : List UInt8) then (some true) else (some false)))))) = some r := h
  clear h
  by_cases c2 : a0.toList = ([108, 105, 115, 116, 105, 110, 103] : List UInt8)
  · rw [if_pos c2] at H
    have c2b0 : (a0.toList == ([108, 105, 115, 116, 105, 110, 103] : List UInt8)) = true := beq_iff_eq.mpr c2
    have c2b1 : (a0.toList != ([108, 105, 115, 116, 105, 110, 103] : List UInt8)) = false := bne_eq_false_iff_eq.mpr c2
    clear c2
    obtain rfl := Option.some.inj H
    go_enter Try.func41, Try.ntmps41
    go_wp2
    go_ret
    exact ⟨by first | rfl | (simp; done) | (simp [*]; done), by repeat (first | exact Drawn0.refl _ | apply Drawn0.step)⟩
  · rw [if_neg c2] at H
    have c2b0 : (a0.toList == ([108, 105, 115, 116, 105, 110, 103] : List UInt8)) = false := beq_eq_false_iff_ne.mpr c2
    have c2b1 : (a0.toList != ([108, 105, 115, 116, 105, 110, 103] : List UInt8)) = true := bne_iff_ne.mpr c2
    by_cases c3 : a0.toList = ([112, 108, 97, 105, 110, 116, 101, 120, 116] : List UInt8)
    · rw [if_pos c3] at H
      have c3b0 : (a0.toList == ([112, 108, 97, 105, 110, 116, 101, 120, 116] : List UInt8)) = true := beq_iff_eq.mpr c3
      have c3b1 : (a0.toList != ([112, 108, 97, 105, 110, 116, 101, 120, 116] : List UInt8)) = false := bne_eq_false_iff_eq.mpr c3
      clear c3
      obtain rfl := Option.some.inj H
      go_enter Try.func41, Try.ntmps41
      go_wp2
      go_ret
      exact ⟨by first | rfl | (simp; done) | (simp [*]; done), by repeat (first | exact Drawn0.refl _ | apply Drawn0.step)⟩
    · rw [if_neg c3] at H
      have c3b0 : (a0.toList == ([112, 108, 97, 105, 110, 116, 101, 120, 116] : List UInt8)) = false := beq_eq_false_iff_ne.mpr c3
      have c3b1 : (a0.toList != ([112, 108, 97, 105, 110, 116, 101, 120, 116] : List UInt8)) = true := bne_iff_ne.mpr c3
      by_cases c4 : a0.toList = ([112, 114, 101] : List UInt8)
      · rw [if_pos c4] at H
        have c4b0 : (a0.toList == ([112, 114, 101] : List UInt8)) = true := beq_iff_eq.mpr c4
        have c4b1 : (a0.toList != ([112, 114, 101] : List UInt8)) = false := bne_eq_false_iff_eq.mpr c4
        clear c4
        obtain rfl := Option.some.inj H
        go_enter Try.func41, Try.ntmps41
        go_wp2
        go_ret
        exact ⟨by first | rfl | (simp; done) | (simp [*]; done), by repeat (first | exact Drawn0.refl _ | apply Drawn0.step)⟩
      · rw [if_neg c4] at H
        have c4b0 : (a0.toList == ([112, 114, 101] : List UInt8)) = false := beq_eq_false_iff_ne.mpr c4
        have c4b1 : (a0.toList != ([112, 114, 101] : List UInt8)) = true := bne_iff_ne.mpr c4
        by_cases c5 : a0.toList = ([116, 101, 120, 116, 97, 114, 101, 97] : List UInt8)
        · rw [if_pos c5] at H
          have c5b0 : (a0.toList == ([116, 101, 120, 116, 97, 114, 101, 97] : List UInt8)) = true := beq_iff_eq.mpr c5
          have c5b1 : (a0.toList != ([116, 101, 120, 116, 97, 114, 101, 97] : List UInt8)) = false := bne_eq_false_iff_eq.mpr c5
          clear c5
          obtain rfl := Option.some.inj H
          go_enter Try.func41, Try.ntmps41
          go_wp2
          go_ret
          exact ⟨by first | rfl | (simp; done) | (simp [*]; done), by repeat (first | exact Drawn0.refl _ | apply Drawn0.step)⟩
        · rw [if_neg c5] at H
          have c5b0 : (a0.toList == ([116, 101, 120, 116, 97, 114, 101, 97] : List UInt8)) = false := beq_eq_false_iff_ne.mpr c5
          have c5b1 : (a0.toList != ([116, 101, 120, 116, 97, 114, 101, 97] : List UInt8)) = true := bne_iff_ne.mpr c5
          by_cases c6 : a0.toList = ([120, 109, 112] : List UInt8)
          · rw [if_pos c6] at H
            have c6b0 : (a0.toList == ([120, 109, 112] : List UInt8)) = true := beq_iff_eq.mpr c6
            have c6b1 : (a0.toList != ([120, 109, 112] : List UInt8)) = false := bne_eq_false_iff_eq.mpr c6
            clear c6
            obtain rfl := Option.some.inj H
            go_enter Try.func41, Try.ntmps41
            go_wp2
            go_ret
            exact ⟨by first | rfl | (simp; done) | (simp [*]; done), by repeat (first | exact Drawn0.refl _ | apply Drawn0.step)⟩
          · rw [if_neg c6] at H
            have c6b0 : (a0.toList == ([120, 109, 112] : List UInt8)) = false := beq_eq_false_iff_ne.mpr c6
            have c6b1 : (a0.toList != ([120, 109, 112] : List UInt8)) = true := bne_iff_ne.mpr c6
            obtain rfl := Option.some.inj H
            go_enter Try.func41, Try.ntmps41
            go_wp2
            go_ret
            exact ⟨by first | rfl | (simp; done) | (simp [*]; done), by repeat (first | exact Drawn0.refl _ | apply Drawn0.step)⟩

end Go.Proofs.Ytaejicolhliecaa.PRe

/- Written by a program of this session out of the translation, for this claim: a part of the walk of what the law calls, or the row of the law. -/
namespace Go.Proofs.Ytaejicolhliecaa.PRe
open Go.RowKit Go.Proofs.YtaejicolhliecaaW.PrintWords Go.Proofs.YtaejicolhliecaaW.PrintLast Go.Proofs.YtaejicolhliecaaW.PrintMore
attribute [local go_sem] max2_int min2_int max_two min_two max_three min_three max_four min_four   -- for this text's walks alone
set_option linter.unusedVariables false
set_option linter.unusedSimpArgs false

/-! ### flailref19_without: function 42 -/
def flailref19_without.l0 : Nat → List ByteArray → ByteArray → List ByteArray → Int → Option (List ByteArray)
  | 0, _, _, _, _ => none
  | k + 1, x0, x1, x5, x6 => if x6 < (x0.length : Int) then (if 0 ≤ x6 then (if (rdOf ByteArray.empty x0 x6).toList = x1.toList then (flailref19_without.l0 k x0 x1 x5 (wrap64 (x6 + 1))) else (if x5.length < 8796093022208 then (flailref19_without.l0 k x0 x1 (x5 ++ [rdOf ByteArray.empty x0 x6]) (wrap64 (x6 + 1))) else (none))) else (none)) else (some x5)
def flailref19_without.f (k : Nat) (l0 : List ByteArray) (a1 : ByteArray) : Option (List ByteArray) := flailref19_without.l0 k l0 a1 ([] : List ByteArray) 0
theorem flailref19_without.mono_l : ∀ k, (∀ y0 y1 y2 y3, LeO (flailref19_without.l0 k y0 y1 y2 y3) (flailref19_without.l0 (k + 1) y0 y1 y2 y3))
  | 0 => fun _ _ _ _ r h => by simp [flailref19_without.l0] at h
  | k + 1 => by
    have ih0 := flailref19_without.mono_l k
    · intro y0 y1 y2 y3
      unfold flailref19_without.l0
      repeat' first
      | (with_reducible exact ih0 _ _ _ _)
      | (with_reducible exact LeO.refl _)
      | (with_reducible exact LeO.none _)
      | (with_reducible refine LeO.ite ?_ ?_)
      | (with_reducible refine LeO.bind ?_ (fun _ => ?_))
      | exact ih0 _ _ _ _
      | exact LeO.none _
      | refine LeO.ite ?_ ?_
      | refine LeO.bind ?_ (fun _ => ?_)
theorem flailref19_without.mono : ∀ a0 a1 k, LeO (flailref19_without.f k a0 a1) (flailref19_without.f (k + 1) a0 a1) := by
  intro a0 a1 k
  have ih0 := flailref19_without.mono_l k
  unfold flailref19_without.f
  repeat' first
      | (with_reducible exact ih0 _ _ _ _)
      | (with_reducible exact LeO.refl _)
      | (with_reducible exact LeO.none _)
      | (with_reducible refine LeO.ite ?_ ?_)
      | (with_reducible refine LeO.bind ?_ (fun _ => ?_))
      | exact ih0 _ _ _ _
      | exact LeO.none _
      | refine LeO.ite ?_ ?_
      | refine LeO.bind ?_ (fun _ => ?_)
set_option maxHeartbeats 8000000 in
set_option maxRecDepth 100000 in
theorem flailref19_without.calls (k : Nat) (A0 : Option Addr) (c0 : Nat) (l0 : List ByteArray) (a1 : ByteArray) (r : List ByteArray) (w : World) (hr0 : Kd.C Kd.string w A0 l0.length l0) (hc0 : l0.length ≤ c0) (h : flailref19_without.f k l0 a1 = some r) :
    Calls Try.prog 42 #[.slice A0 l0.length c0, .string a1] w fun e w' => ∃ v0_ : Value, e = .returned (v0_) ∧ Kd.R Kd.string 9 w' w.heap.size (fun _ => True) v0_ r ∧ Below w.heap.size w w' := by
  have HR0 := Aside0.mk hr0
  have HC0 := Aside0.mk hc0
  clear hr0 hc0
  have HB := Aside0.mk (Below.refl w.heap.size w)
  have H : (flailref19_without.l0 k l0 a1 ([] : List ByteArray) 0) = some r := h
  clear h
  have H' := Aside0.mk H
  clear H
  go_enter Try.func42, Try.ntmps42
  go_wp2
  go_loopg [5, 6] k (fun kq v5 v6 w' => ∃ (x5_1 : List ByteArray) (x6_1 : Int), v6 = .int .i64 x6_1 ∧ Aside0 (flailref19_without.l0 kq l0 a1 x5_1 x6_1 = some r) ∧ Aside0 (kq ≤ k) ∧ Aside0 (Kd.R Kd.string 9 w' w.heap.size (fun _ => True) v5 x5_1) ∧ Aside0 (Below w.heap.size w w'))
  case atStart => exact ⟨(([] : List ByteArray)), (0), (by first | rfl | (simp; done) | (simp [*]; done)), H', ⟨Nat.le_refl _⟩, ⟨by first | exact Kd.R_nil _ _ _ _ _ | exact Kd.N_nil _ _ _ _ _ | exact Kd.V_nil _ _ _ _ _ | exact Kd.Q_nil _ _ _ _ _ | exact Kd.S_nil _ _ _ _ _⟩, ⟨by repeat (first | (with_reducible first | exact HB.out | apply below_alloc | apply pw_below_drewN | apply below_drew1) | exact HB.out)⟩⟩
  case round =>
    clear H'
    try clear p2
    obtain ⟨x5_1, x6_1, rfl, HA, HK1, HO_5, HB⟩ := hrel
    cases gk with
    | zero => exact absurd HA.out (by simp [flailref19_without.l0])
    | succ k1 =>
      have H := HA.out
      clear HA
      simp only [flailref19_without.l0] at H
      by_cases c3 : x6_1 < (l0.length : Int)
      · rw [if_pos c3] at H
        have c3b0 : decide (x6_1 < (l0.length : Int)) = true := decide_eq_true c3
        clear c3
        by_cases c4 : 0 ≤ x6_1
        · rw [if_pos c4] at H
          have c4b0 : decide (0 ≤ x6_1) = true := decide_eq_true c4
          clear c4
          by_cases c5 : (rdOf ByteArray.empty l0 x6_1).toList = a1.toList
          · rw [if_pos c5] at H
            have c5b0 : ((rdOf ByteArray.empty l0 x6_1).toList == a1.toList) = true := beq_iff_eq.mpr c5
            have c5b1 : ((rdOf ByteArray.empty l0 x6_1).toList != a1.toList) = false := bne_eq_false_iff_eq.mpr c5
            clear c5
            have H' := Aside0.mk H
            clear H
            have p139 : 0 ≤ (x6_1 : Int) := of_decide_eq_true (by first | (with_reducible assumption) | assumption)
            have q139 : x6_1 < (l0.length : Int) := of_decide_eq_true (by first | (with_reducible assumption) | assumption)
            obtain ⟨ad139, e139, hx139_0⟩ := Kd.at_string HR0.out x6_1 p139 q139
            cases e139
            replace hx139_0 := (HB.out.cell (World.block_lt_of_cell? w _ hx139_0)).trans hx139_0
            replace p139 := eq_true p139
            replace q139 := eq_true q139
            go_wp2
            go_roundg k1
            case measure => have := HK1.out; omega
            case rel => exact ⟨(x5_1), (wrap64 (x6_1 + 1)), (by first | rfl | (simp; done) | (simp [*]; done)), H', ⟨by have := HK1.out; omega⟩, ⟨by (with_reducible repeat (first | apply Kd.R_alloc | apply Kd.R_drewN | apply Kd.R_drew)); exact HO_5.out⟩, ⟨by repeat (first | (with_reducible first | exact HB.out | apply below_alloc | apply pw_below_drewN | apply below_drew1) | exact HB.out)⟩⟩
          · rw [if_neg c5] at H
            have c5b0 : ((rdOf ByteArray.empty l0 x6_1).toList == a1.toList) = false := beq_eq_false_iff_ne.mpr c5
            have c5b1 : ((rdOf ByteArray.empty l0 x6_1).toList != a1.toList) = true := bne_iff_ne.mpr c5
            by_cases c6 : x5_1.length < 8796093022208
            · rw [if_pos c6] at H
              have LMc6 := Aside0.mk c6
              clear c6
              obtain ⟨y141, hy141⟩ : ∃ y_ : List ByteArray, y_ = (x5_1 ++ [rdOf ByteArray.empty l0 x6_1]) := ⟨_, rfl⟩
              replace H : (flailref19_without.l0 k1 l0 a1 y141 (wrap64 (x6_1 + 1))) = some r := by first | (rw [hy141]; with_reducible exact H) | (have H2_ := (Option.bind_some _ _).symm.trans H; rw [hy141]; with_reducible exact H2_) | (have H2_ := (Option.bind_some _ _).symm.trans H; with_reducible exact H2_) | with_reducible exact H | (rw [hy141]; exact H) | exact H
              have Ny141 := Aside0.mk hy141
              clear hy141
              have H' := Aside0.mk H
              clear H
              have p139 : 0 ≤ (x6_1 : Int) := of_decide_eq_true (by first | (with_reducible assumption) | assumption)
              have q139 : x6_1 < (l0.length : Int) := of_decide_eq_true (by first | (with_reducible assumption) | assumption)
              obtain ⟨ad139, e139, hx139_0⟩ := Kd.at_string HR0.out x6_1 p139 q139
              cases e139
              replace hx139_0 := (HB.out.cell (World.block_lt_of_cell? w _ hx139_0)).trans hx139_0
              replace p139 := eq_true p139
              replace q139 := eq_true q139
              have p140 : 0 ≤ (x6_1 : Int) := of_decide_eq_true (by first | (with_reducible assumption) | assumption)
              have q140 : x6_1 < (l0.length : Int) := of_decide_eq_true (by first | (with_reducible assumption) | assumption)
              obtain ⟨ad140, e140, hx140_0⟩ := Kd.at_string HR0.out x6_1 p140 q140
              obtain rfl : ad139 = ad140 := (by injection e140)
              replace hx140_0 := (HB.out.cell (World.block_lt_of_cell? w _ hx140_0)).trans hx140_0
              replace p140 := eq_true p140
              replace q140 := eq_true q140
              go_wp2_with (first | ((with_reducible refine gate_builtin (b := .append) (xs := #[.tmp 19, .tmp 24]) rfl ?_); at_builtin; refine Kd.R_append Kd.string (w0 := w) w.heap.size rfl (.tmp 19) (.tmp 24) 44 9 (.string ⟨#[]⟩) 16 rfl Try.underlying44 info9 rfl (by decide) (by omega) u5 x5_1 (rdOf ByteArray.empty l0 x6_1) [.string (rdOf ByteArray.empty l0 x6_1)] (fun _ => True) (fun _ => False) rfl rfl ?aP (fun _ hk => hk.elim) ?aF ?aO ?aB ?aS ?aL ?_; (case aP => exact rfl); (case aB => exact (by repeat (first | (with_reducible first | exact HB.out | apply below_alloc | apply pw_below_drewN | apply below_drew1) | exact HB.out))); (case aF => exact (fun _ _ => trivial)); (case aO => exact (by (with_reducible repeat (first | apply Kd.R_alloc | apply Kd.R_drewN | apply Kd.R_drew)); exact HO_5.out)); (case aS => exact (below_size (by repeat (first | (with_reducible first | exact HB.out | apply below_alloc | apply pw_below_drewN | apply below_drew1) | exact HB.out)))); (case aL => have := LMc6.out; omega); intro v142 w7 ho hb hg hat; rw [← Ny141.out] at ho; have n0_ := Aside0.mk (hb); have n1_ := Aside0.mk (ho); clear HB; clear HO_5; have HB := n0_; have HO143 := n1_; clear n0_ n1_; clear ho hb hg hat))
              go_roundg k1
              case measure => have := HK1.out; omega
              case rel => exact ⟨(y141), (wrap64 (x6_1 + 1)), (by first | rfl | (simp; done) | (simp [*]; done)), H', ⟨by have := HK1.out; omega⟩, ⟨by (with_reducible repeat (first | apply Kd.R_alloc | apply Kd.R_drewN | apply Kd.R_drew)); exact HO143.out⟩, ⟨by repeat (first | (with_reducible first | exact HB.out | apply below_alloc | apply pw_below_drewN | apply below_drew1) | exact HB.out)⟩⟩
            · rw [if_neg c6] at H
              exact absurd H (by simp)
        · rw [if_neg c4] at H
          exact absurd H (by simp)
      · rw [if_neg c3] at H
        have c3b0 : decide (x6_1 < (l0.length : Int)) = false := decide_eq_false c3
        clear c3
        obtain rfl := Option.some.inj H
        go_wp2
        go_ret
        exact ⟨_, by first | rfl | (simp [errW_none, errW_some] <;> rfl) | (simp [*, errW_none, errW_some] <;> rfl), by (with_reducible repeat (first | apply Kd.R_alloc | apply Kd.R_drewN | apply Kd.R_drew)); exact HO_5.out, by repeat (first | (with_reducible first | exact HB.out | apply below_alloc | apply pw_below_drewN | apply below_drew1) | exact HB.out)⟩

end Go.Proofs.Ytaejicolhliecaa.PRe

/- Written by a program of this session out of the translation, for this claim: a part of the walk of what the law calls, or the row of the law. -/
namespace Go.Proofs.Ytaejicolhliecaa.PRe
open Go.RowKit Go.Proofs.YtaejicolhliecaaW.PrintWords Go.Proofs.YtaejicolhliecaaW.PrintLast Go.Proofs.YtaejicolhliecaaW.PrintMore
attribute [local go_sem] max2_int min2_int max_two min_two max_three min_three max_four min_four   -- for this text's walks alone
set_option linter.unusedVariables false
set_option linter.unusedSimpArgs false

/-! ### flailref17_Hides: function 43 -/
def flailref17_Hides.f (a0 : ByteArray) : Option (Bool) := if a0.toList = ([104, 101, 97, 100] : List UInt8) then (some true) else (if a0.toList = ([105, 102, 114, 97, 109, 101] : List UInt8) then (some true) else (if a0.toList = ([110, 111, 101, 109, 98, 101, 100] : List UInt8) then (some true) else (if a0.toList = ([110, 111, 102, 114, 97, 109, 101, 115] : List UInt8) then (some true) else (if a0.toList = ([110, 111, 115, 99, 114, 105, 112, 116] : List UInt8) then (some true) else (if a0.toList = ([115, 99, 114, 105, 112, 116] : List UInt8) then (some true) else (if a0.toList = ([115, 116, 121, 108, 101] : List UInt8) then (some true) else (if a0.toList = ([116, 101, 109, 112, 108, 97, 116, 101] : List UInt8) then (some true) else (if a0.toList = ([116, 105, 116, 108, 101] : List UInt8) then (some true) else (some false)))))))))
set_option maxHeartbeats 8000000 in
set_option maxRecDepth 100000 in
theorem flailref17_Hides.calls (a0 : ByteArray) (r : Bool) (w : World) (h : flailref17_Hides.f a0 = some r) :
    Calls Try.prog 43 #[.string a0] w fun e w' => e = .returned (.bool r) ∧ Drawn0 w w' := by
  have H : (if a0.toList = ([104, 101, 97, 100] : List UInt8) then (some true) else (if a0.toList = ([105, 102, 114, 97, 109, 101] : List UInt8) then (some true) else (if a0.toList = ([110, 111, 101, 109, 98, 101, 100] : List UInt8) then (some true) else (if a0.toList = ([110, 111, 102, 114, 97, 109, 101, 115] : List UInt8) then (some true) else (if a0.toList = ([110, 111, 115, 99, 114, 105, 112, 116] : List UInt8) then (some true) else (if a0.toList = ([115, 99, 114, 105, 112, 116] : List UInt8) then (some true) else (if a0.toList = ([115, 116, 121, 108, 101] : List UInt8) then (some true) else (if a0.toList = ([116, 101, 109, 112, 108, 97, 116, 101] : List UInt8) then (some true) else (if a0.toList = ([116, 105, 116, 108, 101] : List UInt8) then (some true) else (some false)))))))))) = some r := h
  clear h
  by_cases c2 : a0.toList = ([104, 101, 97, 100] : List UInt8)
  · rw [if_pos c2] at H
    have c2b0 : (a0.toList == ([104, 101, 97, 100] : List UInt8)) = true := beq_iff_eq.mpr c2
    have c2b1 : (a0.toList != ([104, 101, 97, 100] : List UInt8)) = false := bne_eq_false_iff_eq.mpr c2
    clear c2
    obtain rfl := Option.some.inj H
    go_enter Try.func43, Try.ntmps43
    go_wp2
    go_ret
    exact ⟨by first | rfl | (simp; done) | (simp [*]; done), by repeat (first | exact Drawn0.refl _ | apply Drawn0.step)⟩
  · rw [if_neg c2] at H
    have c2b0 : (a0.toList == ([104, 101, 97, 100] : List UInt8)) = false := beq_eq_false_iff_ne.mpr c2
    have c2b1 : (a0.toList != ([104, 101, 97, 100] : List UInt8)) = true := bne_iff_ne.mpr c2
    by_cases c3 : a0.toList = ([105, 102, 114, 97, 109, 101] : List UInt8)
    · rw [if_pos c3] at H
      have c3b0 : (a0.toList == ([105, 102, 114, 97, 109, 101] : List UInt8)) = true := beq_iff_eq.mpr c3
      have c3b1 : (a0.toList != ([105, 102, 114, 97, 109, 101] : List UInt8)) = false := bne_eq_false_iff_eq.mpr c3
      clear c3
      obtain rfl := Option.some.inj H
      go_enter Try.func43, Try.ntmps43
      go_wp2
      go_ret
      exact ⟨by first | rfl | (simp; done) | (simp [*]; done), by repeat (first | exact Drawn0.refl _ | apply Drawn0.step)⟩
    · rw [if_neg c3] at H
      have c3b0 : (a0.toList == ([105, 102, 114, 97, 109, 101] : List UInt8)) = false := beq_eq_false_iff_ne.mpr c3
      have c3b1 : (a0.toList != ([105, 102, 114, 97, 109, 101] : List UInt8)) = true := bne_iff_ne.mpr c3
      by_cases c4 : a0.toList = ([110, 111, 101, 109, 98, 101, 100] : List UInt8)
      · rw [if_pos c4] at H
        have c4b0 : (a0.toList == ([110, 111, 101, 109, 98, 101, 100] : List UInt8)) = true := beq_iff_eq.mpr c4
        have c4b1 : (a0.toList != ([110, 111, 101, 109, 98, 101, 100] : List UInt8)) = false := bne_eq_false_iff_eq.mpr c4
        clear c4
        obtain rfl := Option.some.inj H
        go_enter Try.func43, Try.ntmps43
        go_wp2
        go_ret
        exact ⟨by first | rfl | (simp; done) | (simp [*]; done), by repeat (first | exact Drawn0.refl _ | apply Drawn0.step)⟩
      · rw [if_neg c4] at H
        have c4b0 : (a0.toList == ([110, 111, 101, 109, 98, 101, 100] : List UInt8)) = false := beq_eq_false_iff_ne.mpr c4
        have c4b1 : (a0.toList != ([110, 111, 101, 109, 98, 101, 100] : List UInt8)) = true := bne_iff_ne.mpr c4
        by_cases c5 : a0.toList = ([110, 111, 102, 114, 97, 109, 101, 115] : List UInt8)
        · rw [if_pos c5] at H
          have c5b0 : (a0.toList == ([110, 111, 102, 114, 97, 109, 101, 115] : List UInt8)) = true := beq_iff_eq.mpr c5
          have c5b1 : (a0.toList != ([110, 111, 102, 114, 97, 109, 101, 115] : List UInt8)) = false := bne_eq_false_iff_eq.mpr c5
          clear c5
          obtain rfl := Option.some.inj H
          go_enter Try.func43, Try.ntmps43
          go_wp2
          go_ret
          exact ⟨by first | rfl | (simp; done) | (simp [*]; done), by repeat (first | exact Drawn0.refl _ | apply Drawn0.step)⟩
        · rw [if_neg c5] at H
          have c5b0 : (a0.toList == ([110, 111, 102, 114, 97, 109, 101, 115] : List UInt8)) = false := beq_eq_false_iff_ne.mpr c5
          have c5b1 : (a0.toList != ([110, 111, 102, 114, 97, 109, 101, 115] : List UInt8)) = true := bne_iff_ne.mpr c5
          by_cases c6 : a0.toList = ([110, 111, 115, 99, 114, 105, 112, 116] : List UInt8)
          · rw [if_pos c6] at H
            have c6b0 : (a0.toList == ([110, 111, 115, 99, 114, 105, 112, 116] : List UInt8)) = true := beq_iff_eq.mpr c6
            have c6b1 : (a0.toList != ([110, 111, 115, 99, 114, 105, 112, 116] : List UInt8)) = false := bne_eq_false_iff_eq.mpr c6
            clear c6
            obtain rfl := Option.some.inj H
            go_enter Try.func43, Try.ntmps43
            go_wp2
            go_ret
            exact ⟨by first | rfl | (simp; done) | (simp [*]; done), by repeat (first | exact Drawn0.refl _ | apply Drawn0.step)⟩
          · rw [if_neg c6] at H
            have c6b0 : (a0.toList == ([110, 111, 115, 99, 114, 105, 112, 116] : List UInt8)) = false := beq_eq_false_iff_ne.mpr c6
            have c6b1 : (a0.toList != ([110, 111, 115, 99, 114, 105, 112, 116] : List UInt8)) = true := bne_iff_ne.mpr c6
            by_cases c7 : a0.toList = ([115, 99, 114, 105, 112, 116] : List UInt8)
            · rw [if_pos c7] at H
              have c7b0 : (a0.toList == ([115, 99, 114, 105, 112, 116] : List UInt8)) = true := beq_iff_eq.mpr c7
              have c7b1 : (a0.toList != ([115, 99, 114, 105, 112, 116] : List UInt8)) = false := bne_eq_false_iff_eq.mpr c7
              clear c7
              obtain rfl := Option.some.inj H
              go_enter Try.func43, Try.ntmps43
              go_wp2
              go_ret
              exact ⟨by first | rfl | (simp; done) | (simp [*]; done), by repeat (first | exact Drawn0.refl _ | apply Drawn0.step)⟩
            · rw [if_neg c7] at H
              have c7b0 : (a0.toList == ([115, 99, 114, 105, 112, 116] : List UInt8)) = false := beq_eq_false_iff_ne.mpr c7
              have c7b1 : (a0.toList != ([115, 99, 114, 105, 112, 116] : List UInt8)) = true := bne_iff_ne.mpr c7
              by_cases c8 : a0.toList = ([115, 116, 121, 108, 101] : List UInt8)
              · rw [if_pos c8] at H
                have c8b0 : (a0.toList == ([115, 116, 121, 108, 101] : List UInt8)) = true := beq_iff_eq.mpr c8
                have c8b1 : (a0.toList != ([115, 116, 121, 108, 101] : List UInt8)) = false := bne_eq_false_iff_eq.mpr c8
                clear c8
                obtain rfl := Option.some.inj H
                go_enter Try.func43, Try.ntmps43
                go_wp2
                go_ret
                exact ⟨by first | rfl | (simp; done) | (simp [*]; done), by repeat (first | exact Drawn0.refl _ | apply Drawn0.step)⟩
              · rw [if_neg c8] at H
                have c8b0 : (a0.toList == ([115, 116, 121, 108, 101] : List UInt8)) = false := beq_eq_false_iff_ne.mpr c8
                have c8b1 : (a0.toList != ([115, 116, 121, 108, 101] : List UInt8)) = true := bne_iff_ne.mpr c8
                by_cases c9 : a0.toList = ([116, 101, 109, 112, 108, 97, 116, 101] : List UInt8)
                · rw [if_pos c9] at H
                  have c9b0 : (a0.toList == ([116, 101, 109, 112, 108, 97, 116, 101] : List UInt8)) = true := beq_iff_eq.mpr c9
                  have c9b1 : (a0.toList != ([116, 101, 109, 112, 108, 97, 116, 101] : List UInt8)) = false := bne_eq_false_iff_eq.mpr c9
                  clear c9
                  obtain rfl := Option.some.inj H
                  go_enter Try.func43, Try.ntmps43
                  go_wp2
                  go_ret
                  exact ⟨by first | rfl | (simp; done) | (simp [*]; done), by repeat (first | exact Drawn0.refl _ | apply Drawn0.step)⟩
                · rw [if_neg c9] at H
                  have c9b0 : (a0.toList == ([116, 101, 109, 112, 108, 97, 116, 101] : List UInt8)) = false := beq_eq_false_iff_ne.mpr c9
                  have c9b1 : (a0.toList != ([116, 101, 109, 112, 108, 97, 116, 101] : List UInt8)) = true := bne_iff_ne.mpr c9
                  by_cases c10 : a0.toList = ([116, 105, 116, 108, 101] : List UInt8)
                  · rw [if_pos c10] at H
                    have c10b0 : (a0.toList == ([116, 105, 116, 108, 101] : List UInt8)) = true := beq_iff_eq.mpr c10
                    have c10b1 : (a0.toList != ([116, 105, 116, 108, 101] : List UInt8)) = false := bne_eq_false_iff_eq.mpr c10
                    clear c10
                    obtain rfl := Option.some.inj H
                    go_enter Try.func43, Try.ntmps43
                    go_wp2
                    go_ret
                    exact ⟨by first | rfl | (simp; done) | (simp [*]; done), by repeat (first | exact Drawn0.refl _ | apply Drawn0.step)⟩
                  · rw [if_neg c10] at H
                    have c10b0 : (a0.toList == ([116, 105, 116, 108, 101] : List UInt8)) = false := beq_eq_false_iff_ne.mpr c10
                    have c10b1 : (a0.toList != ([116, 105, 116, 108, 101] : List UInt8)) = true := bne_iff_ne.mpr c10
                    obtain rfl := Option.some.inj H
                    go_enter Try.func43, Try.ntmps43
                    go_wp2
                    go_ret
                    exact ⟨by first | rfl | (simp; done) | (simp [*]; done), by repeat (first | exact Drawn0.refl _ | apply Drawn0.step)⟩

end Go.Proofs.Ytaejicolhliecaa.PRe

/- Written by a program of this session out of the translation, for this claim: a part of the walk of what the law calls, or the row of the law. -/
namespace Go.Proofs.Ytaejicolhliecaa.PRe
open Go.RowKit Go.Proofs.YtaejicolhliecaaW.PrintWords Go.Proofs.YtaejicolhliecaaW.PrintLast Go.Proofs.YtaejicolhliecaaW.PrintMore
attribute [local go_sem] max2_int min2_int max_two min_two max_three min_three max_four min_four   -- for this text's walks alone
set_option linter.unusedVariables false
set_option linter.unusedSimpArgs false

/-! ### flailref19_last: function 45 -/
def flailref19_last.l0 : Nat → List ByteArray → ByteArray → Int → Option (Int)
  | 0, _, _, _ => none
  | k + 1, x0, x1, x5 => if x5 ≥ 0 then (if 0 ≤ x5 then (if x5 < (x0.length : Int) then (if (rdOf ByteArray.empty x0 x5).toList = x1.toList then (some x5) else (flailref19_last.l0 k x0 x1 (wrap64 (x5 - 1)))) else (none)) else (none)) else (some (-1))
def flailref19_last.f (k : Nat) (l0 : List ByteArray) (a1 : ByteArray) : Option (Int) := flailref19_last.l0 k l0 a1 (wrap64 ((l0.length : Int) - 1))
theorem flailref19_last.mono_l : ∀ k, (∀ y0 y1 y2, LeO (flailref19_last.l0 k y0 y1 y2) (flailref19_last.l0 (k + 1) y0 y1 y2))
  | 0 => fun _ _ _ r h => by simp [flailref19_last.l0] at h
  | k + 1 => by
    have ih0 := flailref19_last.mono_l k
    · intro y0 y1 y2
      unfold flailref19_last.l0
      repeat' first
      | (with_reducible exact ih0 _ _ _)
      | (with_reducible exact LeO.refl _)
      | (with_reducible exact LeO.none _)
      | (with_reducible refine LeO.ite ?_ ?_)
      | (with_reducible refine LeO.bind ?_ (fun _ => ?_))
      | exact ih0 _ _ _
      | exact LeO.none _
      | refine LeO.ite ?_ ?_
      | refine LeO.bind ?_ (fun _ => ?_)
theorem flailref19_last.mono : ∀ a0 a1 k, LeO (flailref19_last.f k a0 a1) (flailref19_last.f (k + 1) a0 a1) := by
  intro a0 a1 k
  have ih0 := flailref19_last.mono_l k
  unfold flailref19_last.f
  repeat' first
      | (with_reducible exact ih0 _ _ _)
      | (with_reducible exact LeO.refl _)
      | (with_reducible exact LeO.none _)
      | (with_reducible refine LeO.ite ?_ ?_)
      | (with_reducible refine LeO.bind ?_ (fun _ => ?_))
      | exact ih0 _ _ _
      | exact LeO.none _
      | refine LeO.ite ?_ ?_
      | refine LeO.bind ?_ (fun _ => ?_)
set_option maxHeartbeats 8000000 in
set_option maxRecDepth 100000 in
theorem flailref19_last.calls (k : Nat) (A0 : Option Addr) (c0 : Nat) (l0 : List ByteArray) (a1 : ByteArray) (r : Int) (w : World) (hr0 : Kd.C Kd.string w A0 l0.length l0) (hc0 : l0.length ≤ c0) (h : flailref19_last.f k l0 a1 = some r) :
    Calls Try.prog 45 #[.slice A0 l0.length c0, .string a1] w fun e w' => e = .returned (.int .i64 r) ∧ Drawn0 w w' := by
  have HR0 := Aside0.mk hr0
  have HC0 := Aside0.mk hc0
  clear hr0 hc0
  have H : (flailref19_last.l0 k l0 a1 (wrap64 ((l0.length : Int) - 1))) = some r := h
  clear h
  have H' := Aside0.mk H
  clear H
  go_enter Try.func45, Try.ntmps45
  go_wp2
  go_loopg [5] k (fun kq v5 w' => ∃ (x5_1 : Int), v5 = .int .i64 x5_1 ∧ Aside0 (flailref19_last.l0 kq l0 a1 x5_1 = some r) ∧ Aside0 (kq ≤ k) ∧ Drawn0 w w')
  case atStart => exact ⟨(wrap64 ((l0.length : Int) - 1)), (by first | rfl | (simp; done) | (simp [*]; done)), H', ⟨Nat.le_refl _⟩, by repeat (first | exact Drawn0.refl _ | apply Drawn0.step)⟩
  case round =>
    clear H'
    try clear p2
    obtain ⟨x5_1, rfl, HA, HK1, ⟨m1, rfl⟩⟩ := hrel
    cases gk with
    | zero => exact absurd HA.out (by simp [flailref19_last.l0])
    | succ k1 =>
      have H := HA.out
      clear HA
      simp only [flailref19_last.l0] at H
      by_cases c3 : x5_1 ≥ 0
      · rw [if_pos c3] at H
        have c3b0 : decide (0 ≤ x5_1) = true := decide_eq_true c3
        clear c3
        by_cases c4 : 0 ≤ x5_1
        · rw [if_pos c4] at H
          have c4b0 : decide (0 ≤ x5_1) = true := decide_eq_true c4
          clear c4
          by_cases c5 : x5_1 < (l0.length : Int)
          · rw [if_pos c5] at H
            have c5b0 : decide (x5_1 < (l0.length : Int)) = true := decide_eq_true c5
            clear c5
            by_cases c6 : (rdOf ByteArray.empty l0 x5_1).toList = a1.toList
            · rw [if_pos c6] at H
              have c6b0 : ((rdOf ByteArray.empty l0 x5_1).toList == a1.toList) = true := beq_iff_eq.mpr c6
              have c6b1 : ((rdOf ByteArray.empty l0 x5_1).toList != a1.toList) = false := bne_eq_false_iff_eq.mpr c6
              clear c6
              obtain rfl := Option.some.inj H
              have p144 : 0 ≤ (x5_1 : Int) := of_decide_eq_true (by first | (with_reducible assumption) | assumption)
              have q144 : x5_1 < (l0.length : Int) := of_decide_eq_true (by first | (with_reducible assumption) | assumption)
              obtain ⟨ad144, e144, hx144_0⟩ := Kd.at_string HR0.out x5_1 p144 q144
              cases e144
              replace p144 := eq_true p144
              replace q144 := eq_true q144
              go_wp2
              go_ret
              exact ⟨by first | rfl | (simp; done) | (simp [*]; done), by repeat (first | exact Drawn0.refl _ | apply Drawn0.step)⟩
            · rw [if_neg c6] at H
              have c6b0 : ((rdOf ByteArray.empty l0 x5_1).toList == a1.toList) = false := beq_eq_false_iff_ne.mpr c6
              have c6b1 : ((rdOf ByteArray.empty l0 x5_1).toList != a1.toList) = true := bne_iff_ne.mpr c6
              have H' := Aside0.mk H
              clear H
              have p144 : 0 ≤ (x5_1 : Int) := of_decide_eq_true (by first | (with_reducible assumption) | assumption)
              have q144 : x5_1 < (l0.length : Int) := of_decide_eq_true (by first | (with_reducible assumption) | assumption)
              obtain ⟨ad144, e144, hx144_0⟩ := Kd.at_string HR0.out x5_1 p144 q144
              cases e144
              replace p144 := eq_true p144
              replace q144 := eq_true q144
              go_wp2
              go_roundg k1
              case measure => have := HK1.out; omega
              case rel => exact ⟨(wrap64 (x5_1 - 1)), (by first | rfl | (simp; done) | (simp [*]; done)), H', ⟨by have := HK1.out; omega⟩, by repeat (first | exact Drawn0.refl _ | apply Drawn0.step)⟩
          · rw [if_neg c5] at H
            exact absurd H (by simp)
        · rw [if_neg c4] at H
          exact absurd H (by simp)
      · rw [if_neg c3] at H
        have c3b0 : decide (0 ≤ x5_1) = false := decide_eq_false c3
        clear c3
        obtain rfl := Option.some.inj H
        go_wp2
        go_ret
        exact ⟨by first | rfl | (simp; done) | (simp [*]; done), by repeat (first | exact Drawn0.refl _ | apply Drawn0.step)⟩

end Go.Proofs.Ytaejicolhliecaa.PRe

/- Written by a program of this session out of the translation, for this claim: a part of the walk of what the law calls, or the row of the law. -/
namespace Go.Proofs.Ytaejicolhliecaa.PRe
open Go.RowKit Go.Proofs.YtaejicolhliecaaW.PrintWords Go.Proofs.YtaejicolhliecaaW.PrintLast Go.Proofs.YtaejicolhliecaaW.PrintMore
attribute [local go_sem] max2_int min2_int max_two min_two max_three min_three max_four min_four   -- for this text's walks alone
set_option linter.unusedVariables false
set_option linter.unusedSimpArgs false

/-! ### flailref17_Lines: function 58 -/
def flailref17_Lines.j0 : Nat → ByteArray → Bool → Option (Int)
  | 0, _, _ => none
  | k + 1, x3, x4 => if x4 = true then (some 2) else (if x3.toList = ([97, 100, 100, 114, 101, 115, 115] : List UInt8) then (some 1) else (if x3.toList = ([97, 114, 116, 105, 99, 108, 101] : List UInt8) then (some 1) else (if x3.toList = ([97, 115, 105, 100, 101] : List UInt8) then (some 1) else (if x3.toList = ([98, 111, 100, 121] : List UInt8) then (some 1) else (if x3.toList = ([99, 101, 110, 116, 101, 114] : List UInt8) then (some 1) else (if x3.toList = ([100, 100] : List UInt8) then (some 1) else (if x3.toList = ([100, 101, 116, 97, 105, 108, 115] : List UInt8) then (some 1) else (if x3.toList = ([100, 105, 97, 108, 111, 103] : List UInt8) then (some 1) else (if x3.toList = ([100, 105, 114] : List UInt8) then (some 1) else (if x3.toList = ([100, 105, 118] : List UInt8) then (some 1) else (if x3.toList = ([100, 108] : List UInt8) then (some 1) else (if x3.toList = ([100, 116] : List UInt8) then (some 1) else (if x3.toList = ([102, 105, 101, 108, 100, 115, 101, 116] : List UInt8) then (some 1) else (if x3.toList = ([102, 105, 103, 99, 97, 112, 116, 105, 111, 110] : List UInt8) then (some 1) else (if x3.toList = ([102, 105, 103, 117, 114, 101] : List UInt8) then (some 1) else (if x3.toList = ([102, 111, 111, 116, 101, 114] : List UInt8) then (some 1) else (if x3.toList = ([102, 111, 114, 109] : List UInt8) then (some 1) else (if x3.toList = ([104, 101, 97, 100, 101, 114] : List UInt8) then (some 1) else (if x3.toList = ([104, 103, 114, 111, 117, 112] : List UInt8) then (some 1) else (if x3.toList = ([104, 114] : List UInt8) then (some 1) else (if x3.toList = ([104, 116, 109, 108] : List UInt8) then (some 1) else (if x3.toList = ([108, 101, 103, 101, 110, 100] : List UInt8) then (some 1) else (if x3.toList = ([108, 105] : List UInt8) then (some 1) else (if x3.toList = ([109, 97, 105, 110] : List UInt8) then (some 1) else (if x3.toList = ([109, 101, 110, 117] : List UInt8) then (some 1) else (if x3.toList = ([110, 97, 118] : List UInt8) then (some 1) else (if x3.toList = ([111, 112, 116, 105, 111, 110] : List UInt8) then (some 1) else (if x3.toList = ([115, 101, 97, 114, 99, 104] : List UInt8) then (some 1) else (if x3.toList = ([115, 101, 99, 116, 105, 111, 110] : List UInt8) then (some 1) else (if x3.toList = ([115, 117, 109, 109, 97, 114, 121] : List UInt8) then (some 1) else (if x3.toList = ([116, 114] : List UInt8) then (some 1) else (some 0))))))))))))))))))))))))))))))))
def flailref17_Lines.f (k : Nat) (a0 : ByteArray) : Option (Int) := if a0.toList = ([98, 108, 111, 99, 107, 113, 117, 111, 116, 101] : List UInt8) then (flailref17_Lines.j0 k a0 (a0.toList == ([98, 108, 111, 99, 107, 113, 117, 111, 116, 101] : List UInt8))) else (if a0.toList = ([104, 49] : List UInt8) then (flailref17_Lines.j0 k a0 (a0.toList == ([104, 49] : List UInt8))) else (if a0.toList = ([104, 50] : List UInt8) then (flailref17_Lines.j0 k a0 (a0.toList == ([104, 50] : List UInt8))) else (if a0.toList = ([104, 51] : List UInt8) then (flailref17_Lines.j0 k a0 (a0.toList == ([104, 51] : List UInt8))) else (if a0.toList = ([104, 52] : List UInt8) then (flailref17_Lines.j0 k a0 (a0.toList == ([104, 52] : List UInt8))) else (if a0.toList = ([104, 53] : List UInt8) then (flailref17_Lines.j0 k a0 (a0.toList == ([104, 53] : List UInt8))) else (if a0.toList = ([104, 54] : List UInt8) then (flailref17_Lines.j0 k a0 (a0.toList == ([104, 54] : List UInt8))) else (if a0.toList = ([108, 105, 115, 116, 105, 110, 103] : List UInt8) then (flailref17_Lines.j0 k a0 (a0.toList == ([108, 105, 115, 116, 105, 110, 103] : List UInt8))) else (if a0.toList = ([111, 108] : List UInt8) then (flailref17_Lines.j0 k a0 (a0.toList == ([111, 108] : List UInt8))) else (if a0.toList = ([112] : List UInt8) then (flailref17_Lines.j0 k a0 (a0.toList == ([112] : List UInt8))) else (if a0.toList = ([112, 108, 97, 105, 110, 116, 101, 120, 116] : List UInt8) then (flailref17_Lines.j0 k a0 (a0.toList == ([112, 108, 97, 105, 110, 116, 101, 120, 116] : List UInt8))) else (if a0.toList = ([112, 114, 101] : List UInt8) then (flailref17_Lines.j0 k a0 (a0.toList == ([112, 114, 101] : List UInt8))) else (if a0.toList = ([116, 97, 98, 108, 101] : List UInt8) then (flailref17_Lines.j0 k a0 (a0.toList == ([116, 97, 98, 108, 101] : List UInt8))) else (if a0.toList = ([117, 108] : List UInt8) then (flailref17_Lines.j0 k a0 (a0.toList == ([117, 108] : List UInt8))) else (flailref17_Lines.j0 k a0 (a0.toList == ([120, 109, 112] : List UInt8))))))))))))))))
theorem flailref17_Lines.mono_l : ∀ k, (∀ y0 y1, LeO (flailref17_Lines.j0 k y0 y1) (flailref17_Lines.j0 (k + 1) y0 y1))
  | 0 => fun _ _ r h => by simp [flailref17_Lines.j0] at h
  | k + 1 => by
    have ih0 := flailref17_Lines.mono_l k
    · intro y0 y1
      unfold flailref17_Lines.j0
      repeat' first
      | (with_reducible exact ih0 _ _)
      | (with_reducible exact LeO.refl _)
      | (with_reducible exact LeO.none _)
      | (with_reducible refine LeO.ite ?_ ?_)
      | (with_reducible refine LeO.bind ?_ (fun _ => ?_))
      | exact ih0 _ _
      | exact LeO.none _
      | refine LeO.ite ?_ ?_
      | refine LeO.bind ?_ (fun _ => ?_)
theorem flailref17_Lines.mono : ∀ a0 k, LeO (flailref17_Lines.f k a0) (flailref17_Lines.f (k + 1) a0) := by
  intro a0 k
  have ih0 := flailref17_Lines.mono_l k
  unfold flailref17_Lines.f
  repeat' first
      | (with_reducible exact ih0 _ _)
      | (with_reducible exact LeO.refl _)
      | (with_reducible exact LeO.none _)
      | (with_reducible refine LeO.ite ?_ ?_)
      | (with_reducible refine LeO.bind ?_ (fun _ => ?_))
      | exact ih0 _ _
      | exact LeO.none _
      | refine LeO.ite ?_ ?_
      | refine LeO.bind ?_ (fun _ => ?_)
set_option maxHeartbeats 8000000 in
set_option maxRecDepth 100000 in
theorem flailref17_Lines.calls (k : Nat) (a0 : ByteArray) (r : Int) (w : World) (h : flailref17_Lines.f k a0 = some r) :
    Calls Try.prog 58 #[.string a0] w fun e w' => e = .returned (.int .i64 r) ∧ Drawn0 w w' := by
  have H : (if a0.toList = ([98, 108, 111, 99, 107, 113, 117, 111, 116, 101] : List UInt8) then (flailref17_Lines.j0 k a0 (a0.toList == ([98, 108, 111, 99, 107, 113, 117, 111, 116, 101] : List UInt8))) else (if a0.toList = ([104, 49] : List UInt8) then (flailref17_Lines.j0 k a0 (a0.toList == ([104, 49] : List UInt8))) else (if a0.toList = ([104, 50] : List UInt8) then (flailref17_Lines.j0 k a0 (a0.toList == ([104, 50] : List UInt8))) else (if a0.toList = ([104, 51] : List UInt8) then (flailref17_Lines.j0 k a0 (a0.toList == ([104, 51] : List UInt8))) else (if a0.toList = ([104, 52] : List UInt8) then (flailref17_Lines.j0 k a0 (a0.toList == ([104, 52] : List UInt8))) else (if a0.toList = ([104, 53] : List UInt8) then (flailref17_Lines.j0 k a0 (a0.toList == ([104, 53] : List UInt8))) else (if a0.toList = ([104, 54] : List UInt8) then (flailref17_Lines.j0 k a0 (a0.toList == ([104, 54] : List UInt8))) else (if a0.toList = ([108, 105, 115, 116, 105, 110, 103] : List UInt8) then (flailref17_Lines.j0 k a0 (a0.toList == ([108, 105, 115, 116, 105, 110, 103] : List UInt8))) else (if a0.toList = ([111, 108] : List UInt8) then (flailref17_Lines.j0 k a0 (a0.toList == ([111, 108] : List UInt8))) else (if a0.toList = ([112] : List UInt8) then (flailref17_Lines.j0 k a0 (a0.toList == ([112] : List UInt8))) else (if a0.toList = ([112, 108, 97, 105, 110, 116, 101, 120, 116] : List UInt8) then (flailref17_Lines.j0 k a0 (a0.toList == ([112, 108, 97, 105, 110, 116, 101, 120, 116] : List UInt8))) else (if a0.toList = ([112, 114, 101] : List UInt8) then (flailref17_Lines.j0 k a0 (a0.toList == ([112, 114, 101] : List UInt8))) else (if a0.toList = ([116, 97, 98, 108, 101] : List UInt8) then (flailref17_Lines.j0 k a0 (a0.toList == ([116, 97, 98, 108, 101] : List UInt8))) else (if a0.toList = ([117, 108] : List UInt8) then (flailref17_Lines.j0 k a0 (a0.toList == ([117, 108] : List UInt8))) else (flailref17_Lines.j0 k a0 (a0.toList == ([120, 109, 112] : List UInt8))))))))))))))))) = some r := h
  clear h
  have HC2 := Aside0.mk H
  clear H
  go_enter Try.func58, Try.ntmps58
  go_upto_if 4 with (fail)
  go_cut [4] (fun v4 wc => ∃ (kq : Nat) (x4_1 : Bool), v4 = .bool x4_1 ∧ Aside0 (flailref17_Lines.j0 kq a0 x4_1 = some r) ∧ Aside0 (kq ≤ k) ∧ Drawn0 w wc)
  case first =>
    have H := HC2.out
    clear HC2
    by_cases c3 : a0.toList = ([98, 108, 111, 99, 107, 113, 117, 111, 116, 101] : List UInt8)
    · rw [if_pos c3] at H
      have c3b0 : (a0.toList == ([98, 108, 111, 99, 107, 113, 117, 111, 116, 101] : List UInt8)) = true := beq_iff_eq.mpr c3
      have c3b1 : (a0.toList != ([98, 108, 111, 99, 107, 113, 117, 111, 116, 101] : List UInt8)) = false := bne_eq_false_iff_eq.mpr c3
      clear c3
      (first | rw [c3b0] | (simp only [i64_w, i32_w]; rw [c3b0]) | skip)
      have H' := Aside0.mk H
      clear H
      go_wp2
      go_meet
      case rel => exact ⟨_, ((a0.toList == ([98, 108, 111, 99, 107, 113, 117, 111, 116, 101] : List UInt8))), (by first | rfl | (simp; done) | (simp [*]; done)), H', ⟨by first | omega | exact Nat.le_refl _⟩, by repeat (first | exact Drawn0.refl _ | apply Drawn0.step)⟩
    · rw [if_neg c3] at H
      have c3b0 : (a0.toList == ([98, 108, 111, 99, 107, 113, 117, 111, 116, 101] : List UInt8)) = false := beq_eq_false_iff_ne.mpr c3
      have c3b1 : (a0.toList != ([98, 108, 111, 99, 107, 113, 117, 111, 116, 101] : List UInt8)) = true := bne_iff_ne.mpr c3
      (first | rw [c3b0] | (simp only [i64_w, i32_w]; rw [c3b0]) | skip)
      by_cases c4 : a0.toList = ([104, 49] : List UInt8)
      · rw [if_pos c4] at H
        have c4b0 : (a0.toList == ([104, 49] : List UInt8)) = true := beq_iff_eq.mpr c4
        have c4b1 : (a0.toList != ([104, 49] : List UInt8)) = false := bne_eq_false_iff_eq.mpr c4
        clear c4
        have H' := Aside0.mk H
        clear H
        go_wp2
        go_meet
        case rel => exact ⟨_, ((a0.toList == ([104, 49] : List UInt8))), (by first | rfl | (simp; done) | (simp [*]; done)), H', ⟨by first | omega | exact Nat.le_refl _⟩, by repeat (first | exact Drawn0.refl _ | apply Drawn0.step)⟩
      · rw [if_neg c4] at H
        have c4b0 : (a0.toList == ([104, 49] : List UInt8)) = false := beq_eq_false_iff_ne.mpr c4
        have c4b1 : (a0.toList != ([104, 49] : List UInt8)) = true := bne_iff_ne.mpr c4
        by_cases c5 : a0.toList = ([104, 50] : List UInt8)
        · rw [if_pos c5] at H
          have c5b0 : (a0.toList == ([104, 50] : List UInt8)) = true := beq_iff_eq.mpr c5
          have c5b1 : (a0.toList != ([104, 50] : List UInt8)) = false := bne_eq_false_iff_eq.mpr c5
          clear c5
          have H' := Aside0.mk H
          clear H
          go_wp2
          go_meet
          case rel => exact ⟨_, ((a0.toList == ([104, 50] : List UInt8))), (by first | rfl | (simp; done) | (simp [*]; done)), H', ⟨by first | omega | exact Nat.le_refl _⟩, by repeat (first | exact Drawn0.refl _ | apply Drawn0.step)⟩
        · rw [if_neg c5] at H
          have c5b0 : (a0.toList == ([104, 50] : List UInt8)) = false := beq_eq_false_iff_ne.mpr c5
          have c5b1 : (a0.toList != ([104, 50] : List UInt8)) = true := bne_iff_ne.mpr c5
          by_cases c6 : a0.toList = ([104, 51] : List UInt8)
          · rw [if_pos c6] at H
            have c6b0 : (a0.toList == ([104, 51] : List UInt8)) = true := beq_iff_eq.mpr c6
            have c6b1 : (a0.toList != ([104, 51] : List UInt8)) = false := bne_eq_false_iff_eq.mpr c6
            clear c6
            have H' := Aside0.mk H
            clear H
            go_wp2
            go_meet
            case rel => exact ⟨_, ((a0.toList == ([104, 51] : List UInt8))), (by first | rfl | (simp; done) | (simp [*]; done)), H', ⟨by first | omega | exact Nat.le_refl _⟩, by repeat (first | exact Drawn0.refl _ | apply Drawn0.step)⟩
          · rw [if_neg c6] at H
            have c6b0 : (a0.toList == ([104, 51] : List UInt8)) = false := beq_eq_false_iff_ne.mpr c6
            have c6b1 : (a0.toList != ([104, 51] : List UInt8)) = true := bne_iff_ne.mpr c6
            by_cases c7 : a0.toList = ([104, 52] : List UInt8)
            · rw [if_pos c7] at H
              have c7b0 : (a0.toList == ([104, 52] : List UInt8)) = true := beq_iff_eq.mpr c7
              have c7b1 : (a0.toList != ([104, 52] : List UInt8)) = false := bne_eq_false_iff_eq.mpr c7
              clear c7
              have H' := Aside0.mk H
              clear H
              go_wp2
              go_meet
              case rel => exact ⟨_, ((a0.toList == ([104, 52] : List UInt8))), (by first | rfl | (simp; done) | (simp [*]; done)), H', ⟨by first | omega | exact Nat.le_refl _⟩, by repeat (first | exact Drawn0.refl _ | apply Drawn0.step)⟩
            · rw [if_neg c7] at H
              have c7b0 : (a0.toList == ([104, 52] : List UInt8)) = false := beq_eq_false_iff_ne.mpr c7
              have c7b1 : (a0.toList != ([104, 52] : List UInt8)) = true := bne_iff_ne.mpr c7
              by_cases c8 : a0.toList = ([104, 53] : List UInt8)
              · rw [if_pos c8] at H
                have c8b0 : (a0.toList == ([104, 53] : List UInt8)) = true := beq_iff_eq.mpr c8
                have c8b1 : (a0.toList != ([104, 53] : List UInt8)) = false := bne_eq_false_iff_eq.mpr c8
                clear c8
                have H' := Aside0.mk H
                clear H
                go_wp2
                go_meet
                case rel => exact ⟨_, ((a0.toList == ([104, 53] : List UInt8))), (by first | rfl | (simp; done) | (simp [*]; done)), H', ⟨by first | omega | exact Nat.le_refl _⟩, by repeat (first | exact Drawn0.refl _ | apply Drawn0.step)⟩
              · rw [if_neg c8] at H
                have c8b0 : (a0.toList == ([104, 53] : List UInt8)) = false := beq_eq_false_iff_ne.mpr c8
                have c8b1 : (a0.toList != ([104, 53] : List UInt8)) = true := bne_iff_ne.mpr c8
                by_cases c9 : a0.toList = ([104, 54] : List UInt8)
                · rw [if_pos c9] at H
                  have c9b0 : (a0.toList == ([104, 54] : List UInt8)) = true := beq_iff_eq.mpr c9
                  have c9b1 : (a0.toList != ([104, 54] : List UInt8)) = false := bne_eq_false_iff_eq.mpr c9
                  clear c9
                  have H' := Aside0.mk H
                  clear H
                  go_wp2
                  go_meet
                  case rel => exact ⟨_, ((a0.toList == ([104, 54] : List UInt8))), (by first | rfl | (simp; done) | (simp [*]; done)), H', ⟨by first | omega | exact Nat.le_refl _⟩, by repeat (first | exact Drawn0.refl _ | apply Drawn0.step)⟩
                · rw [if_neg c9] at H
                  have c9b0 : (a0.toList == ([104, 54] : List UInt8)) = false := beq_eq_false_iff_ne.mpr c9
                  have c9b1 : (a0.toList != ([104, 54] : List UInt8)) = true := bne_iff_ne.mpr c9
                  by_cases c10 : a0.toList = ([108, 105, 115, 116, 105, 110, 103] : List UInt8)
                  · rw [if_pos c10] at H
                    have c10b0 : (a0.toList == ([108, 105, 115, 116, 105, 110, 103] : List UInt8)) = true := beq_iff_eq.mpr c10
                    have c10b1 : (a0.toList != ([108, 105, 115, 116, 105, 110, 103] : List UInt8)) = false := bne_eq_false_iff_eq.mpr c10
                    clear c10
                    have H' := Aside0.mk H
                    clear H
                    go_wp2
                    go_meet
                    case rel => exact ⟨_, ((a0.toList == ([108, 105, 115, 116, 105, 110, 103] : List UInt8))), (by first | rfl | (simp; done) | (simp [*]; done)), H', ⟨by first | omega | exact Nat.le_refl _⟩, by repeat (first | exact Drawn0.refl _ | apply Drawn0.step)⟩
                  · rw [if_neg c10] at H
                    have c10b0 : (a0.toList == ([108, 105, 115, 116, 105, 110, 103] : List UInt8)) = false := beq_eq_false_iff_ne.mpr c10
                    have c10b1 : (a0.toList != ([108, 105, 115, 116, 105, 110, 103] : List UInt8)) = true := bne_iff_ne.mpr c10
                    by_cases c11 : a0.toList = ([111, 108] : List UInt8)
                    · rw [if_pos c11] at H
                      have c11b0 : (a0.toList == ([111, 108] : List UInt8)) = true := beq_iff_eq.mpr c11
                      have c11b1 : (a0.toList != ([111, 108] : List UInt8)) = false := bne_eq_false_iff_eq.mpr c11
                      clear c11
                      have H' := Aside0.mk H
                      clear H
                      go_wp2
                      go_meet
                      case rel => exact ⟨_, ((a0.toList == ([111, 108] : List UInt8))), (by first | rfl | (simp; done) | (simp [*]; done)), H', ⟨by first | omega | exact Nat.le_refl _⟩, by repeat (first | exact Drawn0.refl _ | apply Drawn0.step)⟩
                    · rw [if_neg c11] at H
                      have c11b0 : (a0.toList == ([111, 108] : List UInt8)) = false := beq_eq_false_iff_ne.mpr c11
                      have c11b1 : (a0.toList != ([111, 108] : List UInt8)) = true := bne_iff_ne.mpr c11
                      by_cases c12 : a0.toList = ([112] : List UInt8)
                      · rw [if_pos c12] at H
                        have c12b0 : (a0.toList == ([112] : List UInt8)) = true := beq_iff_eq.mpr c12
                        have c12b1 : (a0.toList != ([112] : List UInt8)) = false := bne_eq_false_iff_eq.mpr c12
                        clear c12
                        have H' := Aside0.mk H
                        clear H
                        go_wp2
                        go_meet
                        case rel => exact ⟨_, ((a0.toList == ([112] : List UInt8))), (by first | rfl | (simp; done) | (simp [*]; done)), H', ⟨by first | omega | exact Nat.le_refl _⟩, by repeat (first | exact Drawn0.refl _ | apply Drawn0.step)⟩
                      · rw [if_neg c12] at H
                        have c12b0 : (a0.toList == ([112] : List UInt8)) = false := beq_eq_false_iff_ne.mpr c12
                        have c12b1 : (a0.toList != ([112] : List UInt8)) = true := bne_iff_ne.mpr c12
                        by_cases c13 : a0.toList = ([112, 108, 97, 105, 110, 116, 101, 120, 116] : List UInt8)
                        · rw [if_pos c13] at H
                          have c13b0 : (a0.toList == ([112, 108, 97, 105, 110, 116, 101, 120, 116] : List UInt8)) = true := beq_iff_eq.mpr c13
                          have c13b1 : (a0.toList != ([112, 108, 97, 105, 110, 116, 101, 120, 116] : List UInt8)) = false := bne_eq_false_iff_eq.mpr c13
                          clear c13
                          have H' := Aside0.mk H
                          clear H
                          go_wp2
                          go_meet
                          case rel => exact ⟨_, ((a0.toList == ([112, 108, 97, 105, 110, 116, 101, 120, 116] : List UInt8))), (by first | rfl | (simp; done) | (simp [*]; done)), H', ⟨by first | omega | exact Nat.le_refl _⟩, by repeat (first | exact Drawn0.refl _ | apply Drawn0.step)⟩
                        · rw [if_neg c13] at H
                          have c13b0 : (a0.toList == ([112, 108, 97, 105, 110, 116, 101, 120, 116] : List UInt8)) = false := beq_eq_false_iff_ne.mpr c13
                          have c13b1 : (a0.toList != ([112, 108, 97, 105, 110, 116, 101, 120, 116] : List UInt8)) = true := bne_iff_ne.mpr c13
                          by_cases c14 : a0.toList = ([112, 114, 101] : List UInt8)
                          · rw [if_pos c14] at H
                            have c14b0 : (a0.toList == ([112, 114, 101] : List UInt8)) = true := beq_iff_eq.mpr c14
                            have c14b1 : (a0.toList != ([112, 114, 101] : List UInt8)) = false := bne_eq_false_iff_eq.mpr c14
                            clear c14
                            have H' := Aside0.mk H
                            clear H
                            go_wp2
                            go_meet
                            case rel => exact ⟨_, ((a0.toList == ([112, 114, 101] : List UInt8))), (by first | rfl | (simp; done) | (simp [*]; done)), H', ⟨by first | omega | exact Nat.le_refl _⟩, by repeat (first | exact Drawn0.refl _ | apply Drawn0.step)⟩
                          · rw [if_neg c14] at H
                            have c14b0 : (a0.toList == ([112, 114, 101] : List UInt8)) = false := beq_eq_false_iff_ne.mpr c14
                            have c14b1 : (a0.toList != ([112, 114, 101] : List UInt8)) = true := bne_iff_ne.mpr c14
                            by_cases c15 : a0.toList = ([116, 97, 98, 108, 101] : List UInt8)
                            · rw [if_pos c15] at H
                              have c15b0 : (a0.toList == ([116, 97, 98, 108, 101] : List UInt8)) = true := beq_iff_eq.mpr c15
                              have c15b1 : (a0.toList != ([116, 97, 98, 108, 101] : List UInt8)) = false := bne_eq_false_iff_eq.mpr c15
                              clear c15
                              have H' := Aside0.mk H
                              clear H
                              go_wp2
                              go_meet
                              case rel => exact ⟨_, ((a0.toList == ([116, 97, 98, 108, 101] : List UInt8))), (by first | rfl | (simp; done) | (simp [*]; done)), H', ⟨by first | omega | exact Nat.le_refl _⟩, by repeat (first | exact Drawn0.refl _ | apply Drawn0.step)⟩
                            · rw [if_neg c15] at H
                              have c15b0 : (a0.toList == ([116, 97, 98, 108, 101] : List UInt8)) = false := beq_eq_false_iff_ne.mpr c15
                              have c15b1 : (a0.toList != ([116, 97, 98, 108, 101] : List UInt8)) = true := bne_iff_ne.mpr c15
                              by_cases c16 : a0.toList = ([117, 108] : List UInt8)
                              · rw [if_pos c16] at H
                                have c16b0 : (a0.toList == ([117, 108] : List UInt8)) = true := beq_iff_eq.mpr c16
                                have c16b1 : (a0.toList != ([117, 108] : List UInt8)) = false := bne_eq_false_iff_eq.mpr c16
                                clear c16
                                have H' := Aside0.mk H
                                clear H
                                go_wp2
                                go_meet
                                case rel => exact ⟨_, ((a0.toList == ([117, 108] : List UInt8))), (by first | rfl | (simp; done) | (simp [*]; done)), H', ⟨by first | omega | exact Nat.le_refl _⟩, by repeat (first | exact Drawn0.refl _ | apply Drawn0.step)⟩
                              · rw [if_neg c16] at H
                                have c16b0 : (a0.toList == ([117, 108] : List UInt8)) = false := beq_eq_false_iff_ne.mpr c16
                                have c16b1 : (a0.toList != ([117, 108] : List UInt8)) = true := bne_iff_ne.mpr c16
                                have H' := Aside0.mk H
                                clear H
                                go_wp2
                                go_meet
                                case rel => exact ⟨_, ((a0.toList == ([120, 109, 112] : List UInt8))), (by first | rfl | (simp; done) | (simp [*]; done)), H', ⟨by first | omega | exact Nat.le_refl _⟩, by repeat (first | exact Drawn0.refl _ | apply Drawn0.step)⟩
  case rest =>
    clear HC2
    try clear c1
    try clear p2
    try clear c3
    try clear c3b0
    try clear c3b1
    try clear c4
    try clear c4b0
    try clear c4b1
    try clear c5
    try clear c5b0
    try clear c5b1
    try clear c6
    try clear c6b0
    try clear c6b1
    try clear c7
    try clear c7b0
    try clear c7b1
    try clear c8
    try clear c8b0
    try clear c8b1
    try clear c9
    try clear c9b0
    try clear c9b1
    try clear c10
    try clear c10b0
    try clear c10b1
    try clear c11
    try clear c11b0
    try clear c11b1
    try clear c12
    try clear c12b0
    try clear c12b1
    try clear c13
    try clear c13b0
    try clear c13b1
    try clear c14
    try clear c14b0
    try clear c14b1
    try clear c15
    try clear c15b0
    try clear c15b1
    try clear c16
    try clear c16b0
    try clear c16b1
    obtain ⟨kq, x4_1, rfl, HA, HJ1, ⟨mc1, rfl⟩⟩ := hcut
    cases kq with
    | zero => exact absurd HA.out (by simp [flailref17_Lines.j0])
    | succ kj1 =>
      have H := HA.out
      clear HA
      simp only [flailref17_Lines.j0] at H
      by_cases c17 : x4_1 = true
      · subst c17
        have H1 : (some 2) = some r := by rw [if_pos rfl] at H; exact H
        clear H
        have H := H1
        clear H1
        obtain rfl := Option.some.inj H
        go_wp2
        go_ret
        exact ⟨by first | rfl | (simp; done) | (simp [*]; done), by repeat (first | exact Drawn0.refl _ | apply Drawn0.step)⟩
      · replace c17 := Bool.eq_false_iff.mpr c17
        subst c17
        have H1 : (if a0.toList = ([97, 100, 100, 114, 101, 115, 115] : List UInt8) then (some 1) else (if a0.toList = ([97, 114, 116, 105, 99, 108, 101] : List UInt8) then (some 1) else (if a0.toList = ([97, 115, 105, 100, 101] : List UInt8) then (some 1) else (if a0.toList = ([98, 111, 100, 121] : List UInt8) then (some 1) else (if a0.toList = ([99, 101, 110, 116, 101, 114] : List UInt8) then (some 1) else (if a0.toList = ([100, 100] : List UInt8) then (some 1) else (if a0.toList = ([100, 101, 116, 97, 105, 108, 115] : List UInt8) then (some 1) else (if a0.toList = ([100, 105, 97, 108, 111, 103] : List UInt8) then (some 1) else (if a0.toList = ([100, 105, 114] : List UInt8) then (some 1) else (if a0.toList = ([100, 105, 118] : List UInt8) then (some 1) else (if a0.toList = ([100, 108] : List UInt8) then (some 1) else (if a0.toList = ([100, 116] : List UInt8) then (some 1) else (if a0.toList = ([102, 105, 101, 108, 100, 115, 101, 116] : List UInt8) then (some 1) else (if a0.toList = ([102, 105, 103, 99, 97, 112, 116, 105, 111, 110] : List UInt8) then (some 1) else (if a0.toList = ([102, 105, 103, 117, 114, 101] : List UInt8) then (some 1) else (if a0.toList = ([102, 111, 111, 116, 101, 114] : List UInt8) then (some 1) else (if a0.toList = ([102, 111, 114, 109] : List UInt8) then (some 1) else (if a0.toList = ([104, 101, 97, 100, 101, 114] : List UInt8) then (some 1) else (if a0.toList = ([104, 103, 114, 111, 117, 112] : List UInt8) then (some 1) else (if a0.toList = ([104, 114] : List UInt8) then (some 1) else (if a0.toList = ([104, 116, 109, 108] : List UInt8) then (some 1) else (if a0.toList = ([108, 101, 103, 101, 110, 100] : List UInt8) then (some 1) else (if a0.toList = ([108, 105] : List UInt8) then (some 1) else (if a0.toList = ([109, 97, 105, 110] : List UInt8) then (some 1) else (if a0.toList = ([109, 101, 110, 117] : List UInt8) then (some 1) else (if a0.toList = ([110, 97, 118] : List UInt8) then (some 1) else (if a0.toList = ([111, 112, 116, 105, 111, 110] : List UInt8) then (some 1) else (if a0.toList = ([115, 101, 97, 114, 99, 104] : List UInt8) then (some 1) else (if a0.toList = ([115, 101, 99, 116, 105, 111, 110] : List UInt8) then (some 1) else (if a0.toList = ([115, 117, 109, 109, 97, 114, 121] : List UInt8) then (some 1) else (if a0.toList = ([116, 114] : List UInt8) then (some 1) else (some 0)))))))))))))))))))))))))))))))) = some r := by rw [if_neg (show ¬ (false = true) by decide)] at H; exact H
        clear H
        have H := H1
        clear H1
        by_cases c18 : a0.toList = ([97, 100, 100, 114, 101, 115, 115] : List UInt8)
        · rw [if_pos c18] at H
          have c18b0 : (a0.toList == ([97, 100, 100, 114, 101, 115, 115] : List UInt8)) = true := beq_iff_eq.mpr c18
          have c18b1 : (a0.toList != ([97, 100, 100, 114, 101, 115, 115] : List UInt8)) = false := bne_eq_false_iff_eq.mpr c18
          clear c18
          obtain rfl := Option.some.inj H
          go_wp2
          go_ret
          exact ⟨by first | rfl | (simp; done) | (simp [*]; done), by repeat (first | exact Drawn0.refl _ | apply Drawn0.step)⟩
        · rw [if_neg c18] at H
          have c18b0 : (a0.toList == ([97, 100, 100, 114, 101, 115, 115] : List UInt8)) = false := beq_eq_false_iff_ne.mpr c18
          have c18b1 : (a0.toList != ([97, 100, 100, 114, 101, 115, 115] : List UInt8)) = true := bne_iff_ne.mpr c18
          by_cases c19 : a0.toList = ([97, 114, 116, 105, 99, 108, 101] : List UInt8)
          · rw [if_pos c19] at H
            have c19b0 : (a0.toList == ([97, 114, 116, 105, 99, 108, 101] : List UInt8)) = true := beq_iff_eq.mpr c19
            have c19b1 : (a0.toList != ([97, 114, 116, 105, 99, 108, 101] : List UInt8)) = false := bne_eq_false_iff_eq.mpr c19
            clear c19
            obtain rfl := Option.some.inj H
            go_wp2
            go_ret
            exact ⟨by first | rfl | (simp; done) | (simp [*]; done), by repeat (first | exact Drawn0.refl _ | apply Drawn0.step)⟩
          · rw [if_neg c19] at H
            have c19b0 : (a0.toList == ([97, 114, 116, 105, 99, 108, 101] : List UInt8)) = false := beq_eq_false_iff_ne.mpr c19
            have c19b1 : (a0.toList != ([97, 114, 116, 105, 99, 108, 101] : List UInt8)) = true := bne_iff_ne.mpr c19
            by_cases c20 : a0.toList = ([97, 115, 105, 100, 101] : List UInt8)
            · rw [if_pos c20] at H
              have c20b0 : (a0.toList == ([97, 115, 105, 100, 101] : List UInt8)) = true := beq_iff_eq.mpr c20
              have c20b1 : (a0.toList != ([97, 115, 105, 100, 101] : List UInt8)) = false := bne_eq_false_iff_eq.mpr c20
              clear c20
              obtain rfl := Option.some.inj H
              go_wp2
              go_ret
              exact ⟨by first | rfl | (simp; done) | (simp [*]; done), by repeat (first | exact Drawn0.refl _ | apply Drawn0.step)⟩
            · rw [if_neg c20] at H
              have c20b0 : (a0.toList == ([97, 115, 105, 100, 101] : List UInt8)) = false := beq_eq_false_iff_ne.mpr c20
              have c20b1 : (a0.toList != ([97, 115, 105, 100, 101] : List UInt8)) = true := bne_iff_ne.mpr c20
              by_cases c21 : a0.toList = ([98, 111, 100, 121] : List UInt8)
              · rw [if_pos c21] at H
                have c21b0 : (a0.toList == ([98, 111, 100, 121] : List UInt8)) = true := beq_iff_eq.mpr c21
                have c21b1 : (a0.toList != ([98, 111, 100, 121] : List UInt8)) = false := bne_eq_false_iff_eq.mpr c21
                clear c21
                obtain rfl := Option.some.inj H
                go_wp2
                go_ret
                exact ⟨by first | rfl | (simp; done) | (simp [*]; done), by repeat (first | exact Drawn0.refl _ | apply Drawn0.step)⟩
              · rw [if_neg c21] at H
                have c21b0 : (a0.toList == ([98, 111, 100, 121] : List UInt8)) = false := beq_eq_false_iff_ne.mpr c21
                have c21b1 : (a0.toList != ([98, 111, 100, 121] : List UInt8)) = true := bne_iff_ne.mpr c21
                by_cases c22 : a0.toList = ([99, 101, 110, 116, 101, 114] : List UInt8)
                · rw [if_pos c22] at H
                  have c22b0 : (a0.toList == ([99, 101, 110, 116, 101, 114] : List UInt8)) = true := beq_iff_eq.mpr c22
                  have c22b1 : (a0.toList != ([99, 101, 110, 116, 101, 114] : List UInt8)) = false := bne_eq_false_iff_eq.mpr c22
                  clear c22
                  obtain rfl := Option.some.inj H
                  go_wp2
                  go_ret
                  exact ⟨by first | rfl | (simp; done) | (simp [*]; done), by repeat (first | exact Drawn0.refl _ | apply Drawn0.step)⟩
                · rw [if_neg c22] at H
                  have c22b0 : (a0.toList == ([99, 101, 110, 116, 101, 114] : List UInt8)) = false := beq_eq_false_iff_ne.mpr c22
                  have c22b1 : (a0.toList != ([99, 101, 110, 116, 101, 114] : List UInt8)) = true := bne_iff_ne.mpr c22
                  by_cases c23 : a0.toList = ([100, 100] : List UInt8)
                  · rw [if_pos c23] at H
                    have c23b0 : (a0.toList == ([100, 100] : List UInt8)) = true := beq_iff_eq.mpr c23
                    have c23b1 : (a0.toList != ([100, 100] : List UInt8)) = false := bne_eq_false_iff_eq.mpr c23
                    clear c23
                    obtain rfl := Option.some.inj H
                    go_wp2
                    go_ret
                    exact ⟨by first | rfl | (simp; done) | (simp [*]; done), by repeat (first | exact Drawn0.refl _ | apply Drawn0.step)⟩
                  · rw [if_neg c23] at H
                    have c23b0 : (a0.toList == ([100, 100] : List UInt8)) = false := beq_eq_false_iff_ne.mpr c23
                    have c23b1 : (a0.toList != ([100, 100] : List UInt8)) = true := bne_iff_ne.mpr c23
                    by_cases c24 : a0.toList = ([100, 101, 116, 97, 105, 108, 115] : List UInt8)
                    · rw [if_pos c24] at H
                      have c24b0 : (a0.toList == ([100, 101, 116, 97, 105, 108, 115] : List UInt8)) = true := beq_iff_eq.mpr c24
                      have c24b1 : (a0.toList != ([100, 101, 116, 97, 105, 108, 115] : List UInt8)) = false := bne_eq_false_iff_eq.mpr c24
                      clear c24
                      obtain rfl := Option.some.inj H
                      go_wp2
                      go_ret
                      exact ⟨by first | rfl | (simp; done) | (simp [*]; done), by repeat (first | exact Drawn0.refl _ | apply Drawn0.step)⟩
                    · rw [if_neg c24] at H
                      have c24b0 : (a0.toList == ([100, 101, 116, 97, 105, 108, 115] : List UInt8)) = false := beq_eq_false_iff_ne.mpr c24
                      have c24b1 : (a0.toList != ([100, 101, 116, 97, 105, 108, 115] : List UInt8)) = true := bne_iff_ne.mpr c24
                      by_cases c25 : a0.toList = ([100, 105, 97, 108, 111, 103] : List UInt8)
                      · rw [if_pos c25] at H
                        have c25b0 : (a0.toList == ([100, 105, 97, 108, 111, 103] : List UInt8)) = true := beq_iff_eq.mpr c25
                        have c25b1 : (a0.toList != ([100, 105, 97, 108, 111, 103] : List UInt8)) = false := bne_eq_false_iff_eq.mpr c25
                        clear c25
                        obtain rfl := Option.some.inj H
                        go_wp2
                        go_ret
                        exact ⟨by first | rfl | (simp; done) | (simp [*]; done), by repeat (first | exact Drawn0.refl _ | apply Drawn0.step)⟩
                      · rw [if_neg c25] at H
                        have c25b0 : (a0.toList == ([100, 105, 97, 108, 111, 103] : List UInt8)) = false := beq_eq_false_iff_ne.mpr c25
                        have c25b1 : (a0.toList != ([100, 105, 97, 108, 111, 103] : List UInt8)) = true := bne_iff_ne.mpr c25
                        by_cases c26 : a0.toList = ([100, 105, 114] : List UInt8)
                        · rw [if_pos c26] at H
                          have c26b0 : (a0.toList == ([100, 105, 114] : List UInt8)) = true := beq_iff_eq.mpr c26
                          have c26b1 : (a0.toList != ([100, 105, 114] : List UInt8)) = false := bne_eq_false_iff_eq.mpr c26
                          clear c26
                          obtain rfl := Option.some.inj H
                          go_wp2
                          go_ret
                          exact ⟨by first | rfl | (simp; done) | (simp [*]; done), by repeat (first | exact Drawn0.refl _ | apply Drawn0.step)⟩
                        · rw [if_neg c26] at H
                          have c26b0 : (a0.toList == ([100, 105, 114] : List UInt8)) = false := beq_eq_false_iff_ne.mpr c26
                          have c26b1 : (a0.toList != ([100, 105, 114] : List UInt8)) = true := bne_iff_ne.mpr c26
                          by_cases c27 : a0.toList = ([100, 105, 118] : List UInt8)
                          · rw [if_pos c27] at H
                            have c27b0 : (a0.toList == ([100, 105, 118] : List UInt8)) = true := beq_iff_eq.mpr c27
                            have c27b1 : (a0.toList != ([100, 105, 118] : List UInt8)) = false := bne_eq_false_iff_eq.mpr c27
                            clear c27
                            obtain rfl := Option.some.inj H
                            go_wp2
                            go_ret
                            exact ⟨by first | rfl | (simp; done) | (simp [*]; done), by repeat (first | exact Drawn0.refl _ | apply Drawn0.step)⟩
                          · rw [if_neg c27] at H
                            have c27b0 : (a0.toList == ([100, 105, 118] : List UInt8)) = false := beq_eq_false_iff_ne.mpr c27
                            have c27b1 : (a0.toList != ([100, 105, 118] : List UInt8)) = true := bne_iff_ne.mpr c27
                            by_cases c28 : a0.toList = ([100, 108] : List UInt8)
                            · rw [if_pos c28] at H
                              have c28b0 : (a0.toList == ([100, 108] : List UInt8)) = true := beq_iff_eq.mpr c28
                              have c28b1 : (a0.toList != ([100, 108] : List UInt8)) = false := bne_eq_false_iff_eq.mpr c28
                              clear c28
                              obtain rfl := Option.some.inj H
                              go_wp2
                              go_ret
                              exact ⟨by first | rfl | (simp; done) | (simp [*]; done), by repeat (first | exact Drawn0.refl _ | apply Drawn0.step)⟩
                            · rw [if_neg c28] at H
                              have c28b0 : (a0.toList == ([100, 108] : List UInt8)) = false := beq_eq_false_iff_ne.mpr c28
                              have c28b1 : (a0.toList != ([100, 108] : List UInt8)) = true := bne_iff_ne.mpr c28
                              by_cases c29 : a0.toList = ([100, 116] : List UInt8)
                              · rw [if_pos c29] at H
                                have c29b0 : (a0.toList == ([100, 116] : List UInt8)) = true := beq_iff_eq.mpr c29
                                have c29b1 : (a0.toList != ([100, 116] : List UInt8)) = false := bne_eq_false_iff_eq.mpr c29
                                clear c29
                                obtain rfl := Option.some.inj H
                                go_wp2
                                go_ret
                                exact ⟨by first | rfl | (simp; done) | (simp [*]; done), by repeat (first | exact Drawn0.refl _ | apply Drawn0.step)⟩
                              · rw [if_neg c29] at H
                                have c29b0 : (a0.toList == ([100, 116] : List UInt8)) = false := beq_eq_false_iff_ne.mpr c29
                                have c29b1 : (a0.toList != ([100, 116] : List UInt8)) = true := bne_iff_ne.mpr c29
                                by_cases c30 : a0.toList = ([102, 105, 101, 108, 100, 115, 101, 116] : List UInt8)
                                · rw [if_pos c30] at H
                                  have c30b0 : (a0.toList == ([102, 105, 101, 108, 100, 115, 101, 116] : List UInt8)) = true := beq_iff_eq.mpr c30
                                  have c30b1 : (a0.toList != ([102, 105, 101, 108, 100, 115, 101, 116] : List UInt8)) = false := bne_eq_false_iff_eq.mpr c30
                                  clear c30
                                  obtain rfl := Option.some.inj H
                                  go_wp2
                                  go_ret
                                  exact ⟨by first | rfl | (simp; done) | (simp [*]; done), by repeat (first | exact Drawn0.refl _ | apply Drawn0.step)⟩
                                · rw [if_neg c30] at H
                                  have c30b0 : (a0.toList == ([102, 105, 101, 108, 100, 115, 101, 116] : List UInt8)) = false := beq_eq_false_iff_ne.mpr c30
                                  have c30b1 : (a0.toList != ([102, 105, 101, 108, 100, 115, 101, 116] : List UInt8)) = true := bne_iff_ne.mpr c30
                                  by_cases c31 : a0.toList = ([102, 105, 103, 99, 97, 112, 116, 105, 111, 110] : List UInt8)
                                  · rw [if_pos c31] at H
                                    have c31b0 : (a0.toList == ([102, 105, 103, 99, 97, 112, 116, 105, 111, 110] : List UInt8)) = true := beq_iff_eq.mpr c31
                                    have c31b1 : (a0.toList != ([102, 105, 103, 99, 97, 112, 116, 105, 111, 110] : List UInt8)) = false := bne_eq_false_iff_eq.mpr c31
                                    clear c31
                                    obtain rfl := Option.some.inj H
                                    go_wp2
                                    go_ret
                                    exact ⟨by first | rfl | (simp; done) | (simp [*]; done), by repeat (first | exact Drawn0.refl _ | apply Drawn0.step)⟩
                                  · rw [if_neg c31] at H
                                    have c31b0 : (a0.toList == ([102, 105, 103, 99, 97, 112, 116, 105, 111, 110] : List UInt8)) = false := beq_eq_false_iff_ne.mpr c31
                                    have c31b1 : (a0.toList != ([102, 105, 103, 99, 97, 112, 116, 105, 111, 110] : List UInt8)) = true := bne_iff_ne.mpr c31
                                    by_cases c32 : a0.toList = ([102, 105, 103, 117, 114, 101] : List UInt8)
                                    · rw [if_pos c32] at H
                                      have c32b0 : (a0.toList == ([102, 105, 103, 117, 114, 101] : List UInt8)) = true := beq_iff_eq.mpr c32
                                      have c32b1 : (a0.toList != ([102, 105, 103, 117, 114, 101] : List UInt8)) = false := bne_eq_false_iff_eq.mpr c32
                                      clear c32
                                      obtain rfl := Option.some.inj H
                                      go_wp2
                                      go_ret
                                      exact ⟨by first | rfl | (simp; done) | (simp [*]; done), by repeat (first | exact Drawn0.refl _ | apply Drawn0.step)⟩
                                    · rw [if_neg c32] at H
                                      have c32b0 : (a0.toList == ([102, 105, 103, 117, 114, 101] : List UInt8)) = false := beq_eq_false_iff_ne.mpr c32
                                      have c32b1 : (a0.toList != ([102, 105, 103, 117, 114, 101] : List UInt8)) = true := bne_iff_ne.mpr c32
                                      by_cases c33 : a0.toList = ([102, 111, 111, 116, 101, 114] : List UInt8)
                                      · rw [if_pos c33] at H
                                        have c33b0 : (a0.toList == ([102, 111, 111, 116, 101, 114] : List UInt8)) = true := beq_iff_eq.mpr c33
                                        have c33b1 : (a0.toList != ([102, 111, 111, 116, 101, 114] : List UInt8)) = false := bne_eq_false_iff_eq.mpr c33
                                        clear c33
                                        obtain rfl := Option.some.inj H
                                        go_wp2
                                        go_ret
                                        exact ⟨by first | rfl | (simp; done) | (simp [*]; done), by repeat (first | exact Drawn0.refl _ | apply Drawn0.step)⟩
                                      · rw [if_neg c33] at H
                                        have c33b0 : (a0.toList == ([102, 111, 111, 116, 101, 114] : List UInt8)) = false := beq_eq_false_iff_ne.mpr c33
                                        have c33b1 : (a0.toList != ([102, 111, 111, 116, 101, 114] : List UInt8)) = true := bne_iff_ne.mpr c33
                                        by_cases c34 : a0.toList = ([102, 111, 114, 109] : List UInt8)
                                        · rw [if_pos c34] at H
                                          have c34b0 : (a0.toList == ([102, 111, 114, 109] : List UInt8)) = true := beq_iff_eq.mpr c34
                                          have c34b1 : (a0.toList != ([102, 111, 114, 109] : List UInt8)) = false := bne_eq_false_iff_eq.mpr c34
                                          clear c34
                                          obtain rfl := Option.some.inj H
                                          go_wp2
                                          go_ret
                                          exact ⟨by first | rfl | (simp; done) | (simp [*]; done), by repeat (first | exact Drawn0.refl _ | apply Drawn0.step)⟩
                                        · rw [if_neg c34] at H
                                          have c34b0 : (a0.toList == ([102, 111, 114, 109] : List UInt8)) = false := beq_eq_false_iff_ne.mpr c34
                                          have c34b1 : (a0.toList != ([102, 111, 114, 109] : List UInt8)) = true := bne_iff_ne.mpr c34
                                          by_cases c35 : a0.toList = ([104, 101, 97, 100, 101, 114] : List UInt8)
                                          · rw [if_pos c35] at H
                                            have c35b0 : (a0.toList == ([104, 101, 97, 100, 101, 114] : List UInt8)) = true := beq_iff_eq.mpr c35
                                            have c35b1 : (a0.toList != ([104, 101, 97, 100, 101, 114] : List UInt8)) = false := bne_eq_false_iff_eq.mpr c35
                                            clear c35
                                            obtain rfl := Option.some.inj H
                                            go_wp2
                                            go_ret
                                            exact ⟨by first | rfl | (simp; done) | (simp [*]; done), by repeat (first | exact Drawn0.refl _ | apply Drawn0.step)⟩
                                          · rw [if_neg c35] at H
                                            have c35b0 : (a0.toList == ([104, 101, 97, 100, 101, 114] : List UInt8)) = false := beq_eq_false_iff_ne.mpr c35
                                            have c35b1 : (a0.toList != ([104, 101, 97, 100, 101, 114] : List UInt8)) = true := bne_iff_ne.mpr c35
                                            by_cases c36 : a0.toList = ([104, 103, 114, 111, 117, 112] : List UInt8)
                                            · rw [if_pos c36] at H
                                              have c36b0 : (a0.toList == ([104, 103, 114, 111, 117, 112] : List UInt8)) = true := beq_iff_eq.mpr c36
                                              have c36b1 : (a0.toList != ([104, 103, 114, 111, 117, 112] : List UInt8)) = false := bne_eq_false_iff_eq.mpr c36
                                              clear c36
                                              obtain rfl := Option.some.inj H
                                              go_wp2
                                              go_ret
                                              exact ⟨by first | rfl | (simp; done) | (simp [*]; done), by repeat (first | exact Drawn0.refl _ | apply Drawn0.step)⟩
                                            · rw [if_neg c36] at H
                                              have c36b0 : (a0.toList == ([104, 103, 114, 111, 117, 112] : List UInt8)) = false := beq_eq_false_iff_ne.mpr c36
                                              have c36b1 : (a0.toList != ([104, 103, 114, 111, 117, 112] : List UInt8)) = true := bne_iff_ne.mpr c36
                                              by_cases c37 : a0.toList = ([104, 114] : List UInt8)
                                              · rw [if_pos c37] at H
                                                have c37b0 : (a0.toList == ([104, 114] : List UInt8)) = true := beq_iff_eq.mpr c37
                                                have c37b1 : (a0.toList != ([104, 114] : List UInt8)) = false := bne_eq_false_iff_eq.mpr c37
                                                clear c37
                                                obtain rfl := Option.some.inj H
                                                go_wp2
                                                go_ret
                                                exact ⟨by first | rfl | (simp; done) | (simp [*]; done), by repeat (first | exact Drawn0.refl _ | apply Drawn0.step)⟩
                                              · rw [if_neg c37] at H
                                                have c37b0 : (a0.toList == ([104, 114] : List UInt8)) = false := beq_eq_false_iff_ne.mpr c37
                                                have c37b1 : (a0.toList != ([104, 114] : List UInt8)) = true := bne_iff_ne.mpr c37
                                                by_cases c38 : a0.toList = ([104, 116, 109, 108] : List UInt8)
                                                · rw [if_pos c38] at H
                                                  have c38b0 : (a0.toList == ([104, 116, 109, 108] : List UInt8)) = true := beq_iff_eq.mpr c38
                                                  have c38b1 : (a0.toList != ([104, 116, 109, 108] : List UInt8)) = false := bne_eq_false_iff_eq.mpr c38
                                                  clear c38
                                                  obtain rfl := Option.some.inj H
                                                  go_wp2
                                                  go_ret
                                                  exact ⟨by first | rfl | (simp; done) | (simp [*]; done), by repeat (first | exact Drawn0.refl _ | apply Drawn0.step)⟩
                                                · rw [if_neg c38] at H
                                                  have c38b0 : (a0.toList == ([104, 116, 109, 108] : List UInt8)) = false := beq_eq_false_iff_ne.mpr c38
                                                  have c38b1 : (a0.toList != ([104, 116, 109, 108] : List UInt8)) = true := bne_iff_ne.mpr c38
                                                  by_cases c39 : a0.toList = ([108, 101, 103, 101, 110, 100] : List UInt8)
                                                  · rw [if_pos c39] at H
                                                    have c39b0 : (a0.toList == ([108, 101, 103, 101, 110, 100] : List UInt8)) = true := beq_iff_eq.mpr c39
                                                    have c39b1 : (a0.toList != ([108, 101, 103, 101, 110, 100] : List UInt8)) = false := bne_eq_false_iff_eq.mpr c39
                                                    clear c39
                                                    obtain rfl := Option.some.inj H
                                                    go_wp2
                                                    go_ret
                                                    exact ⟨by first | rfl | (simp; done) | (simp [*]; done), by repeat (first | exact Drawn0.refl _ | apply Drawn0.step)⟩
                                                  · rw [if_neg c39] at H
                                                    have c39b0 : (a0.toList == ([108, 101, 103, 101, 110, 100] : List UInt8)) = false := beq_eq_false_iff_ne.mpr c39
                                                    have c39b1 : (a0.toList != ([108, 101, 103, 101, 110, 100] : List UInt8)) = true := bne_iff_ne.mpr c39
                                                    by_cases c40 : a0.toList = ([108, 105] : List UInt8)
                                                    · rw [if_pos c40] at H
                                                      have c40b0 : (a0.toList == ([108, 105] : List UInt8)) = true := beq_iff_eq.mpr c40
                                                      have c40b1 : (a0.toList != ([108, 105] : List UInt8)) = false := bne_eq_false_iff_eq.mpr c40
                                                      clear c40
                                                      obtain rfl := Option.some.inj H
                                                      go_wp2
                                                      go_ret
                                                      exact ⟨by first | rfl | (simp; done) | (simp [*]; done), by repeat (first | exact Drawn0.refl _ | apply Drawn0.step)⟩
                                                    · rw [if_neg c40] at H
                                                      have c40b0 : (a0.toList == ([108, 105] : List UInt8)) = false := beq_eq_false_iff_ne.mpr c40
                                                      have c40b1 : (a0.toList != ([108, 105] : List UInt8)) = true := bne_iff_ne.mpr c40
                                                      by_cases c41 : a0.toList = ([109, 97, 105, 110] : List UInt8)
                                                      · rw [if_pos c41] at H
                                                        have c41b0 : (a0.toList == ([109, 97, 105, 110] : List UInt8)) = true := beq_iff_eq.mpr c41
                                                        have c41b1 : (a0.toList != ([109, 97, 105, 110] : List UInt8)) = false := bne_eq_false_iff_eq.mpr c41
                                                        clear c41
                                                        obtain rfl := Option.some.inj H
                                                        go_wp2
                                                        go_ret
                                                        exact ⟨by first | rfl | (simp; done) | (simp [*]; done), by repeat (first | exact Drawn0.refl _ | apply Drawn0.step)⟩
                                                      · rw [if_neg c41] at H
                                                        have c41b0 : (a0.toList == ([109, 97, 105, 110] : List UInt8)) = false := beq_eq_false_iff_ne.mpr c41
                                                        have c41b1 : (a0.toList != ([109, 97, 105, 110] : List UInt8)) = true := bne_iff_ne.mpr c41
                                                        by_cases c42 : a0.toList = ([109, 101, 110, 117] : List UInt8)
                                                        · rw [if_pos c42] at H
                                                          have c42b0 : (a0.toList == ([109, 101, 110, 117] : List UInt8)) = true := beq_iff_eq.mpr c42
                                                          have c42b1 : (a0.toList != ([109, 101, 110, 117] : List UInt8)) = false := bne_eq_false_iff_eq.mpr c42
                                                          clear c42
                                                          obtain rfl := Option.some.inj H
                                                          go_wp2
                                                          go_ret
                                                          exact ⟨by first | rfl | (simp; done) | (simp [*]; done), by repeat (first | exact Drawn0.refl _ | apply Drawn0.step)⟩
                                                        · rw [if_neg c42] at H
                                                          have c42b0 : (a0.toList == ([109, 101, 110, 117] : List UInt8)) = false := beq_eq_false_iff_ne.mpr c42
                                                          have c42b1 : (a0.toList != ([109, 101, 110, 117] : List UInt8)) = true := bne_iff_ne.mpr c42
                                                          by_cases c43 : a0.toList = ([110, 97, 118] : List UInt8)
                                                          · rw [if_pos c43] at H
                                                            have c43b0 : (a0.toList == ([110, 97, 118] : List UInt8)) = true := beq_iff_eq.mpr c43
                                                            have c43b1 : (a0.toList != ([110, 97, 118] : List UInt8)) = false := bne_eq_false_iff_eq.mpr c43
                                                            clear c43
                                                            obtain rfl := Option.some.inj H
                                                            go_wp2
                                                            go_ret
                                                            exact ⟨by first | rfl | (simp; done) | (simp [*]; done), by repeat (first | exact Drawn0.refl _ | apply Drawn0.step)⟩
                                                          · rw [if_neg c43] at H
                                                            have c43b0 : (a0.toList == ([110, 97, 118] : List UInt8)) = false := beq_eq_false_iff_ne.mpr c43
                                                            have c43b1 : (a0.toList != ([110, 97, 118] : List UInt8)) = true := bne_iff_ne.mpr c43
                                                            by_cases c44 : a0.toList = ([111, 112, 116, 105, 111, 110] : List UInt8)
                                                            · rw [if_pos c44] at H
                                                              have c44b0 : (a0.toList == ([111, 112, 116, 105, 111, 110] : List UInt8)) = true := beq_iff_eq.mpr c44
                                                              have c44b1 : (a0.toList != ([111, 112, 116, 105, 111, 110] : List UInt8)) = false := bne_eq_false_iff_eq.mpr c44
                                                              clear c44
                                                              obtain rfl := Option.some.inj H
                                                              go_wp2
                                                              go_ret
                                                              exact ⟨by first | rfl | (simp; done) | (simp [*]; done), by repeat (first | exact Drawn0.refl _ | apply Drawn0.step)⟩
                                                            · rw [if_neg c44] at H
                                                              have c44b0 : (a0.toList == ([111, 112, 116, 105, 111, 110] : List UInt8)) = false := beq_eq_false_iff_ne.mpr c44
                                                              have c44b1 : (a0.toList != ([111, 112, 116, 105, 111, 110] : List UInt8)) = true := bne_iff_ne.mpr c44
                                                              by_cases c45 : a0.toList = ([115, 101, 97, 114, 99, 104] : List UInt8)
                                                              · rw [if_pos c45] at H
                                                                have c45b0 : (a0.toList == ([115, 101, 97, 114, 99, 104] : List UInt8)) = true := beq_iff_eq.mpr c45
                                                                have c45b1 : (a0.toList != ([115, 101, 97, 114, 99, 104] : List UInt8)) = false := bne_eq_false_iff_eq.mpr c45
                                                                clear c45
                                                                obtain rfl := Option.some.inj H
                                                                go_wp2
                                                                go_ret
                                                                exact ⟨by first | rfl | (simp; done) | (simp [*]; done), by repeat (first | exact Drawn0.refl _ | apply Drawn0.step)⟩
                                                              · rw [if_neg c45] at H
                                                                have c45b0 : (a0.toList == ([115, 101, 97, 114, 99, 104] : List UInt8)) = false := beq_eq_false_iff_ne.mpr c45
                                                                have c45b1 : (a0.toList != ([115, 101, 97, 114, 99, 104] : List UInt8)) = true := bne_iff_ne.mpr c45
                                                                by_cases c46 : a0.toList = ([115, 101, 99, 116, 105, 111, 110] : List UInt8)
                                                                · rw [if_pos c46] at H
                                                                  have c46b0 : (a0.toList == ([115, 101, 99, 116, 105, 111, 110] : List UInt8)) = true := beq_iff_eq.mpr c46
                                                                  have c46b1 : (a0.toList != ([115, 101, 99, 116, 105, 111, 110] : List UInt8)) = false := bne_eq_false_iff_eq.mpr c46
                                                                  clear c46
                                                                  obtain rfl := Option.some.inj H
                                                                  go_wp2
                                                                  go_ret
                                                                  exact ⟨by first | rfl | (simp; done) | (simp [*]; done), by repeat (first | exact Drawn0.refl _ | apply Drawn0.step)⟩
                                                                · rw [if_neg c46] at H
                                                                  have c46b0 : (a0.toList == ([115, 101, 99, 116, 105, 111, 110] : List UInt8)) = false := beq_eq_false_iff_ne.mpr c46
                                                                  have c46b1 : (a0.toList != ([115, 101, 99, 116, 105, 111, 110] : List UInt8)) = true := bne_iff_ne.mpr c46
                                                                  by_cases c47 : a0.toList = ([115, 117, 109, 109, 97, 114, 121] : List UInt8)
                                                                  · rw [if_pos c47] at H
                                                                    have c47b0 : (a0.toList == ([115, 117, 109, 109, 97, 114, 121] : List UInt8)) = true := beq_iff_eq.mpr c47
                                                                    have c47b1 : (a0.toList != ([115, 117, 109, 109, 97, 114, 121] : List UInt8)) = false := bne_eq_false_iff_eq.mpr c47
                                                                    clear c47
                                                                    obtain rfl := Option.some.inj H
                                                                    go_wp2
                                                                    go_ret
                                                                    exact ⟨by first | rfl | (simp; done) | (simp [*]; done), by repeat (first | exact Drawn0.refl _ | apply Drawn0.step)⟩
                                                                  · rw [if_neg c47] at H
                                                                    have c47b0 : (a0.toList == ([115, 117, 109, 109, 97, 114, 121] : List UInt8)) = false := beq_eq_false_iff_ne.mpr c47
                                                                    have c47b1 : (a0.toList != ([115, 117, 109, 109, 97, 114, 121] : List UInt8)) = true := bne_iff_ne.mpr c47
                                                                    by_cases c48 : a0.toList = ([116, 114] : List UInt8)
                                                                    · rw [if_pos c48] at H
                                                                      have c48b0 : (a0.toList == ([116, 114] : List UInt8)) = true := beq_iff_eq.mpr c48
                                                                      have c48b1 : (a0.toList != ([116, 114] : List UInt8)) = false := bne_eq_false_iff_eq.mpr c48
                                                                      clear c48
                                                                      obtain rfl := Option.some.inj H
                                                                      go_wp2
                                                                      go_ret
                                                                      exact ⟨by first | rfl | (simp; done) | (simp [*]; done), by repeat (first | exact Drawn0.refl _ | apply Drawn0.step)⟩
                                                                    · rw [if_neg c48] at H
                                                                      have c48b0 : (a0.toList == ([116, 114] : List UInt8)) = false := beq_eq_false_iff_ne.mpr c48
                                                                      have c48b1 : (a0.toList != ([116, 114] : List UInt8)) = true := bne_iff_ne.mpr c48
                                                                      obtain rfl := Option.some.inj H
                                                                      go_wp2
                                                                      go_ret
                                                                      exact ⟨by first | rfl | (simp; done) | (simp [*]; done), by repeat (first | exact Drawn0.refl _ | apply Drawn0.step)⟩

end Go.Proofs.Ytaejicolhliecaa.PRe
