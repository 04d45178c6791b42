/- The chapter's examples of layer 18: the law's awake is true. -/
import Derived.Test.YtaejicolhliecaaSys
set_option linter.unusedVariables false
namespace Go.Proofs.Ytaejicolhliecaa.Flow
open Go.RowKit Go.Lib Go.Proofs.Ytaejicolhliecaa.Buf

def mA : M := M.none.put false [97, 32, 32, 98]
def mX : M := M.none.put false [120]
def mX2 : M := mX.brk 2
def mX1 : M := mX2.brk 1
def mY : M := mX1.put false [121]
theorem mA_told : mA.told = [97, 32, 98] := by decide
theorem mY_told : mY.told = [120, 10, 10, 121] := by decide

set_option maxHeartbeats 4000000 in
set_option maxRecDepth 100000 in
theorem awake_at (w : World) : Calls Try.prog 15 #[] w fun e w' => e = .returned (.bool true) ∧ Below w.heap.size w w' := by
  have H0 := Lib.hid (sys_nil w)
  have e1 : ((⟨mA.told.toArray⟩ : ByteArray).toList == ([97, 32, 98] : List UInt8)) = true := by rw [ByteArray.toList_eq, mA_told]; rfl
  have e2 : ((⟨mY.told.toArray⟩ : ByteArray).toList == ([120, 10, 10, 121] : List UInt8)) = true := by rw [ByteArray.toList_eq, mY_told]; rfl
  go_enter Try.func15, Try.ntmps15
  go_wp2_with fail
  refine (sys_new H0.out).mono ?_
  rintro e w1 ⟨b1, rfl, H1⟩
  go_wp2_with fail
  refine (sys_new H1.out).mono ?_
  rintro e w2 ⟨b2, rfl, H2⟩
  go_wp2_with fail
  refine (sys_put 0 H2 rfl ⟨#[97, 32, 32, 98]⟩ false (Lib.hid (by decide))).mono ?_
  rintro e w3 ⟨rfl, H3⟩
  go_wp2_with fail
  refine (sys_put 1 H3 rfl ⟨#[120]⟩ false (Lib.hid (by decide))).mono ?_
  rintro e w4 ⟨rfl, H4⟩
  go_wp2_with fail
  refine (sys_brk 1 H4 rfl (Lib.hid (by decide)) 2 (by decide)).mono ?_
  rintro e w5 ⟨rfl, H5⟩
  go_wp2_with fail
  refine (sys_brk 1 H5 rfl (Lib.hid (by decide)) 1 (by decide)).mono ?_
  rintro e w6 ⟨rfl, H6⟩
  go_wp2_with fail
  refine (sys_put 1 H6 rfl ⟨#[121]⟩ false (Lib.hid (by decide))).mono ?_
  rintro e w7 ⟨rfl, H7⟩
  have H8 : Hid (Sys w w7 [(b1, mA), (b2, mY)]) := H7
  clear H0 H1 H2 H3 H4 H5 H6 H7
  go_wp2_with fail
  refine (sys_text 0 H8 rfl).mono ?_
  rintro e w8 ⟨rfl, H9⟩
  go_wp2_with fail
  refine (sys_text 1 H9 rfl).mono ?_
  rintro e w9 ⟨rfl, H10⟩
  go_wp2_with fail
  go_ret
  exact ⟨rfl, H10.out.below⟩
end Go.Proofs.Ytaejicolhliecaa.Flow
