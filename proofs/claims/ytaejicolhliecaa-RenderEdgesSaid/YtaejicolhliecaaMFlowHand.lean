/- Several texts of this claim, laid together into one file. -/
import Derived.Test.YtaejicolhliecaaProg
import Derived.Below
import Derived.Deep.Draws
import Derived.Deep.AppendLies
import Derived.Maps.AppendAt
import Derived.OwnWalk
import Derived.Laws.BytesArg
import Derived.Laws.MakeOwn
import Derived.Laws.OwnMore
import Derived.Deep.OwnRows
import Derived.Tactics
import Derived.Lib.ConvBytes
import Derived.Laws.Slices
import Derived.WalkKit
import Derived.KernelRfl
import Derived.RowKit3
import Derived.Deep.LoopGhost
import Derived.Deep.QuietTactic
import Derived.BigQuiet
import Derived.WideLaws
import Derived.Deep.DeepCutAuto
import Derived.Deep.CutBlock
import Derived.Deep.RegionHeld3
import Derived.Laws.Rows
import Derived.Lib.AppendStr
import Derived.ArgAppend
import Derived.Laws.IdiomCopy
import Derived.OrdersHeld
import Derived.Laws.BitsLemmas
import Derived.RowKit
import Derived.Test.YtaejicolhliecaaWWords
import Derived.Test.YtaejicolhliecaaWLast
import Derived.Test.YtaejicolhliecaaWTab
import Derived.Test.YtaejicolhliecaaWFour
import Derived.Test.YtaejicolhliecaaWQPut
import Derived.Test.YtaejicolhliecaaWApart
import Derived.Test.YtaejicolhliecaaWArr
import Derived.Test.YtaejicolhliecaaWZeros
import Derived.Test.YtaejicolhliecaaWFoot
import Derived.Test.YtaejicolhliecaaWKept
import Derived.Test.YtaejicolhliecaaWShare
import Derived.Test.YtaejicolhliecaaWN
import Derived.Test.YtaejicolhliecaaWFootNe
import Derived.Test.YtaejicolhliecaaWAt
import Derived.Test.YtaejicolhliecaaWEqStruct
import Derived.Test.YtaejicolhliecaaWRepsOne
import Derived.Test.YtaejicolhliecaaWInv
import Derived.Test.YtaejicolhliecaaWInvWords
import Derived.Test.YtaejicolhliecaaWGuard
import Derived.Test.YtaejicolhliecaaWNEv
import Derived.Test.YtaejicolhliecaaWMore
import Derived.Test.YtaejicolhliecaaMFlow
import Derived.Deep.Slices
import Derived.RegionTactic
import Derived.ChangeAlike
import Derived.Deep.RegionWith
set_option linter.unusedSimpArgs false
set_option linter.unusedVariables false
/- Written by a program of this session out of the translation, for this claim: a part of the walk of what the law calls, or the row of the law. -/
namespace Go.Proofs.Ytaejicolhliecaa.PFl
open Go.RowKit Go.Proofs.YtaejicolhliecaaW.PrintWords Go.Proofs.YtaejicolhliecaaW.PrintLast Go.Proofs.YtaejicolhliecaaW.PrintMore
attribute [local go_sem] max2_int min2_int max_two min_two max_three min_three max_four min_four   -- for this text's walks alone
set_option linter.unusedVariables false
set_option linter.unusedSimpArgs false



def errW : Option Int → Value
  | none => .nilIface
  | some c => .iface 0 (.int .i64 c)
theorem errW_none : errW none = .nilIface := rfl
theorem errW_some (c : Int) : errW (some c) = .iface 0 (.int .i64 c) := rfl

-- the values' own types
/-! #### struct type 32 -/
structure S32 where
  f0 : Int
  f1 : ByteArray
  f2 : Bool
  f3 : Int
def z32 : S32 := ⟨(0 : Int), (⟨#[]⟩ : ByteArray), false, (0 : Int)⟩
def k32 : Kd S32 := Kd.iso (Kd.pair (Kd.int .i64) (Kd.pair Kd.string (Kd.pair Kd.bool (Kd.int .i64)))) (fun x : S32 => (x.f0, x.f1, x.f2, x.f3))
theorem k32_open {w : World} {x : S32} {cs : List Value} (h : k32.K w x cs) : cs = [.int .i64 x.f0, .string x.f1, .bool x.f2, .int .i64 x.f3] := by
  obtain ⟨_, _, rfl, rfl, ⟨_, _, rfl, rfl, ⟨_, _, rfl, rfl, rfl⟩⟩⟩ := h
  exact rfl
theorem k32_openM {w : World} {base : Nat} {ok : Nat → Prop} {x : S32} {cs : List Value} (h : k32.M w base ok x cs) : cs = [.int .i64 x.f0, .string x.f1, .bool x.f2, .int .i64 x.f3] := by
  obtain ⟨_, _, rfl, rfl, ⟨_, _, rfl, rfl, ⟨_, _, rfl, rfl, rfl⟩⟩⟩ := h
  exact rfl
theorem k32_mk (w : World) (x : S32)  : k32.K w x [.int .i64 x.f0, .string x.f1, .bool x.f2, .int .i64 x.f3] := ⟨[.int .i64 x.f0], [.string x.f1, .bool x.f2, .int .i64 x.f3], rfl, rfl, ⟨[.string x.f1], [.bool x.f2, .int .i64 x.f3], rfl, rfl, ⟨[.bool x.f2], [.int .i64 x.f3], rfl, rfl, rfl⟩⟩⟩
theorem k32_mkM (w : World) (base : Nat) (ok : Nat → Prop) (x : S32)  : k32.M w base ok x [.int .i64 x.f0, .string x.f1, .bool x.f2, .int .i64 x.f3] := ⟨[.int .i64 x.f0], [.string x.f1, .bool x.f2, .int .i64 x.f3], rfl, rfl, ⟨[.string x.f1], [.bool x.f2, .int .i64 x.f3], rfl, rfl, ⟨[.bool x.f2], [.int .i64 x.f3], rfl, rfl, rfl⟩⟩⟩
def rd_T32 (xs : List S32) (i : Int) : S32 := xs.getD i.toNat z32
theorem at_T32 {w : World} {A : Option Addr} {n : Nat} {xs : List S32} (h : Kd.C k32 w A n xs) (i : Int) (h0 : 0 ≤ i) (h1 : i < n) : ∃ ad , A = some ad ∧ w.cell? (ad.add (i.toNat * 4)) = some (.int .i64 (rd_T32 xs i).f0) ∧ w.cell? ⟨(ad.add (i.toNat * 4)).block, (ad.add (i.toNat * 4)).off + 1, none⟩ = some (.string (rd_T32 xs i).f1) ∧ w.cell? ⟨(ad.add (i.toNat * 4)).block, (ad.add (i.toNat * 4)).off + 2, none⟩ = some (.bool (rd_T32 xs i).f2) ∧ w.cell? ⟨(ad.add (i.toNat * 4)).block, (ad.add (i.toNat * 4)).off + 3, none⟩ = some (.int .i64 (rd_T32 xs i).f3) := by
  obtain ⟨ad, c, e, _, hK, hc0⟩ := Kd.C_get h z32 i h0 h1
  have hc : ∀ j u, c[j]? = some u → w.cell? (ad.add (i.toNat * 4 + j)) = some u := hc0
  obtain rfl := k32_open hK
  exact ⟨ad, e, hc 0 _ rfl, by rw [← add_field _ _ 1 (by omega)]; exact hc 1 _ rfl, by rw [← add_field _ _ 2 (by omega)]; exact hc 2 _ rfl, by rw [← add_field _ _ 3 (by omega)]; exact hc 3 _ rfl⟩

def rd_L4 (xs : List (List S32)) (i : Int) : (List S32) := xs.getD i.toNat ([] : List S32)
theorem at_L4 {w : World} {A : Option Addr} {n : Nat} {xs : List (List S32)} (h : Kd.C (Kd.slice 32 k32) w A n xs) (i : Int) (h0 : 0 ≤ i) (h1 : i < n) : ∃ ad A0 c0, A = some ad ∧ w.cell? (ad.add i.toNat) = some (.slice A0 (rd_L4 xs i).length c0) ∧ (rd_L4 xs i).length ≤ c0 ∧ k32.C w A0 (rd_L4 xs i).length (rd_L4 xs i) := by
  obtain ⟨ad, c, e, _, hK, hc0⟩ := Kd.C_get h ([] : List S32) i h0 h1
  have hc : ∀ j u, c[j]? = some u → w.cell? (ad.add (i.toNat * 1 + j)) = some u := hc0
  obtain ⟨A0, c0, rfl, l0, g0⟩ := hK
  exact ⟨ad, A0, c0, e, by have hq := hc 0 _ rfl; rwa [Nat.mul_one, Nat.add_zero] at hq, l0, g0⟩

end Go.Proofs.Ytaejicolhliecaa.PFl

/- Written by a program of this session out of the translation, for this claim: a part of the walk of what the law calls, or the row of the law. -/
namespace Go.Proofs.Ytaejicolhliecaa.PFl
open Go.RowKit Go.Proofs.YtaejicolhliecaaW.PrintWords Go.Proofs.YtaejicolhliecaaW.PrintLast Go.Proofs.YtaejicolhliecaaW.PrintMore
attribute [local go_sem] max2_int min2_int max_two min_two max_three min_three max_four min_four   -- for this text's walks alone
set_option linter.unusedVariables false
set_option linter.unusedSimpArgs false

/-! ### flailref18_Few: function 16 -/
def flailref18_Few.l0 : Nat → List (S32) → Int → Option (Bool)
  | 0, _, _ => none
  | k + 1, x0, x3 => if x3 < (x0.length : Int) then (if 0 ≤ x3 then (if (((rd_T32 x0 x3).f1).size : Int) > 100 then (some false) else (flailref18_Few.l0 k x0 (wrap64 (x3 + 1)))) else (none)) else (some true)
def flailref18_Few.f (k : Nat) (l0 : List (S32)) : Option (Bool) := if (l0.length : Int) > 60 then (some false) else (flailref18_Few.l0 k l0 0)
theorem flailref18_Few.mono_l : ∀ k, (∀ y0 y1, LeO (flailref18_Few.l0 k y0 y1) (flailref18_Few.l0 (k + 1) y0 y1))
  | 0 => fun _ _ r h => by simp [flailref18_Few.l0] at h
  | k + 1 => by
    have ih0 := flailref18_Few.mono_l k
    · intro y0 y1
      unfold flailref18_Few.l0
      repeat' first
      | (with_reducible exact ih0 _ _)
      | (with_reducible exact LeO.refl _)
      | (with_reducible exact LeO.none _)
      | (with_reducible refine LeO.ite ?_ ?_)
      | (with_reducible refine LeO.bind ?_ (fun _ => ?_))
      | exact ih0 _ _
      | exact LeO.none _
      | refine LeO.ite ?_ ?_
      | refine LeO.bind ?_ (fun _ => ?_)
theorem flailref18_Few.mono : ∀ a0 k, LeO (flailref18_Few.f k a0) (flailref18_Few.f (k + 1) a0) := by
  intro a0 k
  have ih0 := flailref18_Few.mono_l k
  unfold flailref18_Few.f
  repeat' first
      | (with_reducible exact ih0 _ _)
      | (with_reducible exact LeO.refl _)
      | (with_reducible exact LeO.none _)
      | (with_reducible refine LeO.ite ?_ ?_)
      | (with_reducible refine LeO.bind ?_ (fun _ => ?_))
      | exact ih0 _ _
      | exact LeO.none _
      | refine LeO.ite ?_ ?_
      | refine LeO.bind ?_ (fun _ => ?_)
set_option maxHeartbeats 8000000 in
set_option maxRecDepth 100000 in
theorem flailref18_Few.calls (k : Nat) (A0 : Option Addr) (c0 : Nat) (l0 : List (S32)) (r : Bool) (w : World) (hr0 : Kd.C k32 w A0 l0.length l0) (hc0 : l0.length ≤ c0) (h : flailref18_Few.f k l0 = some r) :
    Calls Try.prog 16 #[.slice A0 l0.length c0] w fun e w' => e = .returned (.bool r) ∧ Drawn0 w w' := by
  have HR0 := Aside0.mk hr0
  have HC0 := Aside0.mk hc0
  clear hr0 hc0
  have H : (if (l0.length : Int) > 60 then (some false) else (flailref18_Few.l0 k l0 0)) = some r := h
  clear h
  by_cases c2 : (l0.length : Int) > 60
  · rw [if_pos c2] at H
    have c2b0 : decide (60 < (l0.length : Int)) = true := decide_eq_true c2
    have c2b1 : decide (60 < l0.length) = true := decide_eq_true (by omega)
    clear c2
    obtain rfl := Option.some.inj H
    go_enter Try.func16, Try.ntmps16
    go_wp2
    go_ret
    exact ⟨by first | rfl | (simp; done) | (simp [*]; done), by repeat (first | exact Drawn0.refl _ | apply Drawn0.step)⟩
  · rw [if_neg c2] at H
    have c2b0 : decide (60 < (l0.length : Int)) = false := decide_eq_false c2
    have c2b1 : decide (60 < l0.length) = false := decide_eq_false (by omega)
    clear c2
    have H' := Aside0.mk H
    clear H
    go_enter Try.func16, Try.ntmps16
    go_wp2
    go_loopg [3] k (fun kq v3 w' => ∃ (x3_1 : Int), v3 = .int .i64 x3_1 ∧ Aside0 (flailref18_Few.l0 kq l0 x3_1 = some r) ∧ Aside0 (kq ≤ k) ∧ Drawn0 w w')
    case atStart => exact ⟨(0), (by first | rfl | (simp; done) | (simp [*]; done)), H', ⟨Nat.le_refl _⟩, by repeat (first | exact Drawn0.refl _ | apply Drawn0.step)⟩
    case round =>
      clear H'
      try clear c1
      try clear c2
      try clear c2b0
      try clear c2b1
      try clear p2
      obtain ⟨x3_1, rfl, HA, HK1, ⟨m1, rfl⟩⟩ := hrel
      cases gk with
      | zero => exact absurd HA.out (by simp [flailref18_Few.l0])
      | succ k1 =>
        have H := HA.out
        clear HA
        simp only [flailref18_Few.l0] at H
        by_cases c3 : x3_1 < (l0.length : Int)
        · rw [if_pos c3] at H
          have c3b0 : decide (x3_1 < (l0.length : Int)) = true := decide_eq_true c3
          clear c3
          by_cases c4 : 0 ≤ x3_1
          · rw [if_pos c4] at H
            have c4b0 : decide (0 ≤ x3_1) = true := decide_eq_true c4
            clear c4
            by_cases c5 : (((rd_T32 l0 x3_1).f1).size : Int) > 100
            · rw [if_pos c5] at H
              have c5b0 : decide (100 < (((rd_T32 l0 x3_1).f1).size : Int)) = true := decide_eq_true c5
              have c5b1 : decide (100 < ((rd_T32 l0 x3_1).f1).size) = true := decide_eq_true (by omega)
              clear c5
              obtain rfl := Option.some.inj H
              have p101 : 0 ≤ (x3_1 : Int) := of_decide_eq_true (by first | (with_reducible assumption) | assumption)
              have q101 : x3_1 < (l0.length : Int) := of_decide_eq_true (by first | (with_reducible assumption) | assumption)
              obtain ⟨ad101, e101, hx101_0, hx101_1, hx101_2, hx101_3⟩ := at_T32 HR0.out x3_1 p101 q101
              cases e101
              replace p101 := eq_true p101
              replace q101 := eq_true q101
              go_wp2
              go_ret
              exact ⟨by first | rfl | (simp; done) | (simp [*]; done), by repeat (first | exact Drawn0.refl _ | apply Drawn0.step)⟩
            · rw [if_neg c5] at H
              have c5b0 : decide (100 < (((rd_T32 l0 x3_1).f1).size : Int)) = false := decide_eq_false c5
              have c5b1 : decide (100 < ((rd_T32 l0 x3_1).f1).size) = false := decide_eq_false (by omega)
              clear c5
              have H' := Aside0.mk H
              clear H
              have p101 : 0 ≤ (x3_1 : Int) := of_decide_eq_true (by first | (with_reducible assumption) | assumption)
              have q101 : x3_1 < (l0.length : Int) := of_decide_eq_true (by first | (with_reducible assumption) | assumption)
              obtain ⟨ad101, e101, hx101_0, hx101_1, hx101_2, hx101_3⟩ := at_T32 HR0.out x3_1 p101 q101
              cases e101
              replace p101 := eq_true p101
              replace q101 := eq_true q101
              go_wp2
              go_roundg k1
              case measure => have := HK1.out; omega
              case rel => exact ⟨(wrap64 (x3_1 + 1)), (by first | rfl | (simp; done) | (simp [*]; done)), H', ⟨by have := HK1.out; omega⟩, by repeat (first | exact Drawn0.refl _ | apply Drawn0.step)⟩
          · rw [if_neg c4] at H
            exact absurd H (by simp)
        · rw [if_neg c3] at H
          have c3b0 : decide (x3_1 < (l0.length : Int)) = false := decide_eq_false c3
          clear c3
          obtain rfl := Option.some.inj H
          go_wp2
          go_ret
          exact ⟨by first | rfl | (simp; done) | (simp [*]; done), by repeat (first | exact Drawn0.refl _ | apply Drawn0.step)⟩

end Go.Proofs.Ytaejicolhliecaa.PFl

/- Written by a program of this session out of the translation, for this claim: a part of the walk of what the law calls, or the row of the law. -/
namespace Go.Proofs.Ytaejicolhliecaa.PFl
open Go.RowKit Go.Proofs.YtaejicolhliecaaW.PrintWords Go.Proofs.YtaejicolhliecaaW.PrintLast Go.Proofs.YtaejicolhliecaaW.PrintMore
attribute [local go_sem] max2_int min2_int max_two min_two max_three min_three max_four min_four   -- for this text's walks alone
set_option linter.unusedVariables false
set_option linter.unusedSimpArgs false

/-! ### flaillaw18_blank: function 21 -/
def flaillaw18_blank.f (a0 : Int) : Option (Bool) := if a0 = 9 then (some true) else (if a0 = 10 then (some true) else (if a0 = 12 then (some true) else (if a0 = 13 then (some true) else (some (a0 == 32)))))
set_option maxHeartbeats 8000000 in
set_option maxRecDepth 100000 in
theorem flaillaw18_blank.calls (a0 : Int) (r : Bool) (w : World) (h : flaillaw18_blank.f a0 = some r) :
    Calls Try.prog 21 #[.int .u8 a0] w fun e w' => e = .returned (.bool r) ∧ Drawn0 w w' := by
  have H : (if a0 = 9 then (some true) else (if a0 = 10 then (some true) else (if a0 = 12 then (some true) else (if a0 = 13 then (some true) else (some (a0 == 32)))))) = some r := h
  clear h
  by_cases c2 : a0 = 9
  · rw [if_pos c2] at H
    have c2b0 : (a0 == 9) = true := beq_iff_eq.mpr c2
    have c2b1 : (a0 != 9) = false := bne_eq_false_iff_eq.mpr c2
    clear c2
    obtain rfl := Option.some.inj H
    go_enter Try.func21, Try.ntmps21
    go_wp2
    go_ret
    exact ⟨by first | rfl | (simp; done) | (simp [*]; done), by repeat (first | exact Drawn0.refl _ | apply Drawn0.step)⟩
  · rw [if_neg c2] at H
    have c2b0 : (a0 == 9) = false := beq_eq_false_iff_ne.mpr c2
    have c2b1 : (a0 != 9) = true := bne_iff_ne.mpr c2
    by_cases c3 : a0 = 10
    · rw [if_pos c3] at H
      have c3b0 : (a0 == 10) = true := beq_iff_eq.mpr c3
      have c3b1 : (a0 != 10) = false := bne_eq_false_iff_eq.mpr c3
      clear c3
      obtain rfl := Option.some.inj H
      go_enter Try.func21, Try.ntmps21
      go_wp2
      go_ret
      exact ⟨by first | rfl | (simp; done) | (simp [*]; done), by repeat (first | exact Drawn0.refl _ | apply Drawn0.step)⟩
    · rw [if_neg c3] at H
      have c3b0 : (a0 == 10) = false := beq_eq_false_iff_ne.mpr c3
      have c3b1 : (a0 != 10) = true := bne_iff_ne.mpr c3
      by_cases c4 : a0 = 12
      · rw [if_pos c4] at H
        have c4b0 : (a0 == 12) = true := beq_iff_eq.mpr c4
        have c4b1 : (a0 != 12) = false := bne_eq_false_iff_eq.mpr c4
        clear c4
        obtain rfl := Option.some.inj H
        go_enter Try.func21, Try.ntmps21
        go_wp2
        go_ret
        exact ⟨by first | rfl | (simp; done) | (simp [*]; done), by repeat (first | exact Drawn0.refl _ | apply Drawn0.step)⟩
      · rw [if_neg c4] at H
        have c4b0 : (a0 == 12) = false := beq_eq_false_iff_ne.mpr c4
        have c4b1 : (a0 != 12) = true := bne_iff_ne.mpr c4
        by_cases c5 : a0 = 13
        · rw [if_pos c5] at H
          have c5b0 : (a0 == 13) = true := beq_iff_eq.mpr c5
          have c5b1 : (a0 != 13) = false := bne_eq_false_iff_eq.mpr c5
          clear c5
          obtain rfl := Option.some.inj H
          go_enter Try.func21, Try.ntmps21
          go_wp2
          go_ret
          exact ⟨by first | rfl | (simp; done) | (simp [*]; done), by repeat (first | exact Drawn0.refl _ | apply Drawn0.step)⟩
        · rw [if_neg c5] at H
          have c5b0 : (a0 == 13) = false := beq_eq_false_iff_ne.mpr c5
          have c5b1 : (a0 != 13) = true := bne_iff_ne.mpr c5
          obtain rfl := Option.some.inj H
          go_enter Try.func21, Try.ntmps21
          go_wp2
          go_ret
          exact ⟨by first | rfl | (simp; done) | (simp [*]; done), by repeat (first | exact Drawn0.refl _ | apply Drawn0.step)⟩

end Go.Proofs.Ytaejicolhliecaa.PFl

/- The chapter's examples of layer 18: the law's awake is true. -/
set_option linter.unusedVariables false
namespace Go.Proofs.Ytaejicolhliecaa.Flow
open Go.RowKit Go.Lib Go.Proofs.Ytaejicolhliecaa.Buf

def mA : M := M.none.put false [97, 32, 32, 98]
def mX : M := M.none.put false [120]
def mX2 : M := mX.brk 2
def mX1 : M := mX2.brk 1
def mY : M := mX1.put false [121]
theorem mA_told : mA.told = [97, 32, 98] := by decide
theorem mY_told : mY.told = [120, 10, 10, 121] := by decide

set_option maxHeartbeats 4000000 in
set_option maxRecDepth 100000 in
theorem awake_at (w : World) : Calls Try.prog 15 #[] w fun e w' => e = .returned (.bool true) ∧ Below w.heap.size w w' := by
  have H0 := Lib.hid (sys_nil w)
  have e1 : ((⟨mA.told.toArray⟩ : ByteArray).toList == ([97, 32, 98] : List UInt8)) = true := by rw [ByteArray.toList_eq, mA_told]; rfl
  have e2 : ((⟨mY.told.toArray⟩ : ByteArray).toList == ([120, 10, 10, 121] : List UInt8)) = true := by rw [ByteArray.toList_eq, mY_told]; rfl
  go_enter Try.func15, Try.ntmps15
  go_wp2_with fail
  refine (sys_new H0.out).mono ?_
  rintro e w1 ⟨b1, rfl, H1⟩
  go_wp2_with fail
  refine (sys_new H1.out).mono ?_
  rintro e w2 ⟨b2, rfl, H2⟩
  go_wp2_with fail
  refine (sys_put 0 H2 rfl ⟨#[97, 32, 32, 98]⟩ false (Lib.hid (by decide))).mono ?_
  rintro e w3 ⟨rfl, H3⟩
  go_wp2_with fail
  refine (sys_put 1 H3 rfl ⟨#[120]⟩ false (Lib.hid (by decide))).mono ?_
  rintro e w4 ⟨rfl, H4⟩
  go_wp2_with fail
  refine (sys_brk 1 H4 rfl (Lib.hid (by decide)) 2 (by decide)).mono ?_
  rintro e w5 ⟨rfl, H5⟩
  go_wp2_with fail
  refine (sys_brk 1 H5 rfl (Lib.hid (by decide)) 1 (by decide)).mono ?_
  rintro e w6 ⟨rfl, H6⟩
  go_wp2_with fail
  refine (sys_put 1 H6 rfl ⟨#[121]⟩ false (Lib.hid (by decide))).mono ?_
  rintro e w7 ⟨rfl, H7⟩
  have H8 : Hid (Sys w w7 [(b1, mA), (b2, mY)]) := H7
  clear H0 H1 H2 H3 H4 H5 H6 H7
  go_wp2_with fail
  refine (sys_text 0 H8 rfl).mono ?_
  rintro e w8 ⟨rfl, H9⟩
  go_wp2_with fail
  refine (sys_text 1 H9 rfl).mono ?_
  rintro e w9 ⟨rfl, H10⟩
  go_wp2_with fail
  go_ret
  exact ⟨rfl, H10.out.below⟩
end Go.Proofs.Ytaejicolhliecaa.Flow

/- A slice of things that are done, as it came in: a list of them, with its cells. -/
set_option linter.unusedVariables false
namespace Go.Proofs.Ytaejicolhliecaa.Flow
open Go.Deep Go.RowKit Go.Lib Go.Proofs.Ytaejicolhliecaa.Buf Go.Proofs.Ytaejicolhliecaa.PFl Go.Proofs.YtaejicolhliecaaW.PrintWords

theorem actFields : ∃ fs : Array Field, Try.prog.underlying 32 = some (.struct fs) ∧ fs.map (fun f => (f.type, f.offset)) = #[(3, 0), (9, 1), (4, 2), (3, 3)] := ⟨_, Try.underlying32, by simp⟩
theorem actCells : Try.prog.cellsOf 32 = 4 := by kernel_rfl
theorem intCells : Try.prog.cellsOf 3 = 1 := by kernel_rfl
theorem strCells1 : Try.prog.cellsOf 9 = 1 := by kernel_rfl
theorem boolCells : Try.prog.cellsOf 4 = 1 := by kernel_rfl

theorem four {α : Type} : ∀ (l : List α), l.length = 4 → ∃ a b c d, l = [a, b, c, d]
  | [a, b, c, d], _ => ⟨a, b, c, d, rfl⟩
instance : Inhabited S32 := ⟨z32⟩

section
variable {H : Type} {enc : TypeId × Value → H} {W : World} {base : Nat} {spare : Nat → Bool} {held : Bool}

theorem open_act {n : Nat} {cs : List Value} {y : DataW H × List MemPlace} (h : DataW.trod enc Try.prog W base spare held n 32 cs = some y) : ∃ x : S32, cs = [.int .i64 x.f0, .string x.f1, .bool x.f2, .int .i64 x.f3] ∧ (Lit.int .i64 x.f3).wf = true := by
  obtain ⟨fs, hu, hp⟩ := actFields
  obtain ⟨xs, k, _, _, hl, hxl, hf⟩ := DataW.trod_struct hu h
  rw [actCells] at hl
  have hfs : fs.size = 4 := by have := congrArg Array.size hp; simpa using this
  have g : ∀ (i : Nat) (t : TypeId × Nat), (#[(3, 0), (9, 1), (4, 2), (3, 3)] : Array (TypeId × Nat))[i]? = some t → DataW.trod enc Try.prog W base spare held k t.1 ((cs.drop t.2).take (Try.prog.cellsOf t.1)) = xs[i]? := by
    intro i t ht
    rw [← hp, Array.getElem?_map] at ht
    obtain ⟨f, hf1, rfl⟩ := Option.map_eq_some_iff.1 ht
    exact hf i f hf1
  have g0 := g 0 (3, 0) rfl
  have g1 := g 1 (9, 1) rfl
  have g2 := g 2 (4, 2) rfl
  have g3 := g 3 (3, 3) rfl
  rw [hfs] at hxl
  obtain ⟨y0, y1, y2, y3, rfl⟩ := four xs hxl
  obtain ⟨v0, v1, v2, v3, rfl⟩ := four cs hl
  · simp only [intCells, strCells1, boolCells, List.drop_zero, List.drop_succ_cons, List.take_succ_cons, List.take_zero, List.getElem?_cons_zero, List.getElem?_cons_succ] at g0 g1 g2 g3
    obtain ⟨k0, e0, _, _⟩ := DataW.trod_int Try.underlying3 g0
    obtain ⟨s1, e1, _, _⟩ := DataW.trod_string Try.underlying9 g1
    obtain ⟨b2, e2, _⟩ := DataW.trod_bool Try.underlying4 g2
    obtain ⟨n3, e3, _, hw⟩ := DataW.trod_int Try.underlying3 g3
    simp only [List.cons.injEq, and_true] at e0 e1 e2 e3
    subst e0 e1 e2 e3
    exact ⟨⟨k0, s1, b2, n3⟩, rfl, hw⟩

theorem open_acts {a : Option Addr} {len cap : Nat} {d : DataW H} {ps : List MemPlace} (h : DataW.Trod enc Try.prog W base spare held 22 (.slice a len cap) d ps) :
    ∃ l : List S32, l.length = len ∧ len ≤ cap ∧ Kd.C k32 W a l.length l ∧ ∀ x ∈ l, (Lit.int .i64 x.f3).wf = true := by
  obtain ⟨fuel, hf⟩ := h
  rcases open_slice Try.underlying22 hf with ⟨hcs, _⟩ | ⟨ad, l, c, m, n, D, Pl, hcs, hb, hl, hm, hmm, _, each⟩
  · simp [Value.cells] at hcs
    obtain ⟨rfl, rfl, rfl⟩ := hcs
    exact ⟨[], rfl, Nat.le_refl _, ⟨rfl, by simp, fun h => absurd h (by simp)⟩, by simp⟩
  · simp [Value.cells] at hcs
    obtain ⟨rfl, rfl, rfl⟩ := hcs
    have hlm : len ≤ m := by rw [hmm]; split <;> omega
    rw [actCells] at each
    obtain ⟨q, hq⟩ := choose_lt (α := S32) (n := m) (p := fun i x => W.cells? base (ad.add (i * 4)) 4 = some [.int .i64 x.f0, .string x.f1, .bool x.f2, .int .i64 x.f3] ∧ (Lit.int .i64 x.f3).wf = true) (fun i hi => by
      obtain ⟨cs', h1, h2⟩ := each i hi
      obtain ⟨x, e, hw⟩ := open_act h2
      exact ⟨x, by rw [h1, e], hw⟩)
    refine ⟨(List.range len).map q, by simp, hl, ⟨rfl, by simp; unfold maxLen at hm; omega, fun _ => ⟨ad, rfl, ?_⟩⟩, ?_⟩
    · intro j p hp
      rw [List.getElem?_map] at hp
      obtain ⟨i, hi, rfl⟩ := Option.map_eq_some_iff.1 hp
      obtain ⟨hj, e⟩ := List.getElem?_eq_some_iff.1 hi
      simp at hj e
      subst e
      obtain ⟨h1, _⟩ := hq j (by omega)
      obtain ⟨_, _, hcell⟩ := World.cells?_some h1
      refine ⟨_, rfl, k32_mk W (q j), fun i u hu => ?_⟩
      have hi4 : i < 4 := by
        have := (List.getElem?_eq_some_iff.1 hu).1
        simpa using this
      have := hcell i hi4
      rw [Go.Deep.add_add] at this
      exact this.trans hu
    · intro x hx
      simp only [List.mem_map, List.mem_range] at hx
      obtain ⟨i, hi, rfl⟩ := hx
      exact (hq i (by omega)).2
end
end Go.Proofs.Ytaejicolhliecaa.Flow

/- What lets a law over things that are done off; and what they do, one behind the other. -/
set_option linter.unusedVariables false
namespace Go.Proofs.Ytaejicolhliecaa.Flow
open Go.RowKit Go.Lib Go.Proofs.Ytaejicolhliecaa.Buf Go.Proofs.Ytaejicolhliecaa.PFl Go.Proofs.YtaejicolhliecaaW.PrintWords

def fewB (l : List S32) : Bool := decide (l.length ≤ 60) && l.all fun x => decide (x.f1.size ≤ 100)

theorem few_l : ∀ (n : Nat) (l : List S32) (i : Nat), l.length ≤ i + n → l.length ≤ 1000 → flailref18_Few.l0 (n + 1) l i = some ((l.drop i).all fun x => decide (x.f1.size ≤ 100))
  | 0, l, i, h, _ => by
    unfold flailref18_Few.l0
    rw [if_neg (by omega), List.drop_eq_nil_of_le (by omega)]
    rfl
  | n + 1, l, i, h, hl => by
    unfold flailref18_Few.l0
    by_cases hi : i < l.length
    · rw [if_pos (by omega), if_pos (by omega)]
      have hd : l.drop i = l[i] :: l.drop (i + 1) := by rw [List.drop_eq_getElem_cons hi]
      have hg : rd_T32 l (i : Int) = l[i] := by simp [rd_T32, hi]
      rw [hg, hd, List.all_cons]
      by_cases hs : l[i].f1.size ≤ 100
      · rw [if_neg (by omega)]
        have hw : wrap64 ((i : Int) + 1) = ((i + 1 : Nat) : Int) := by unfold wrap64; omega
        rw [hw, few_l n l (i + 1) (by omega) hl]
        simp [hs]
      · rw [if_pos (by omega)]
        simp [hs]
    · rw [if_neg (by omega), List.drop_eq_nil_of_le (by omega)]
      rfl

theorem few_at (l : List S32) : flailref18_Few.f (l.length + 1) l = some (fewB l) := by
  unfold flailref18_Few.f fewB
  by_cases h : l.length ≤ 60
  · rw [if_neg (by omega)]
    have := few_l l.length l 0 (by omega) (by omega)
    rw [List.drop_zero] at this
    rw [show ((0 : Nat) : Int) = 0 from rfl] at this
    rw [this]
    simp [h]
  · rw [if_pos (by omega)]
    simp [h]

def act (x : S32) : Act := ⟨x.f0, x.f1, x.f2, x.f3⟩
def doAll (l : List S32) (m : M) : M := l.foldl (fun m x => m.does (act x)) m
theorem doAll_snoc (l : List S32) (x : S32) (m : M) : doAll (l ++ [x]) m = (doAll l m).does (act x) := by simp [doAll]
theorem doAll_size : ∀ (l : List S32) (m : M), (∀ x ∈ l, x.f1.size ≤ 100) → (doAll l m).size ≤ m.size + 200 * l.length
  | [], m, _ => by simp [doAll]
  | x :: l, m, h => by
    have h1 := doAll_size l (m.does (act x)) (fun y hy => h y (List.mem_cons_of_mem _ hy))
    have h2 := does_size (act x) m
    have h3 := h x (List.mem_cons_self)
    simp only [doAll, List.foldl_cons, List.length_cons, act] at h1 h2 ⊢
    omega
theorem few_all {l : List S32} (h : fewB l = true) : l.length ≤ 60 ∧ ∀ x ∈ l, x.f1.size ≤ 100 := by
  unfold fewB at h
  simp only [Bool.and_eq_true, decide_eq_true_eq, List.all_eq_true] at h
  exact h
theorem take_one (l : List S32) (i : Nat) (h : i < l.length) : l.take (i + 1) = l.take i ++ [l[i]] := by
  rw [List.take_succ_eq_append_getElem h]

/-- The cells of the i-th. -/
theorem act_cells {w : World} {A : Option Addr} {l : List S32} (h : Kd.C k32 w A l.length l) (i : Nat) (hi : i < l.length) : ∃ ad, A = some ad ∧ w.cell? (ad.add (i * 4)) = some (.int .i64 (l[i]).f0) ∧ w.cell? ⟨(ad.add (i * 4)).block, (ad.add (i * 4)).off + 1, none⟩ = some (.string (l[i]).f1) ∧ w.cell? ⟨(ad.add (i * 4)).block, (ad.add (i * 4)).off + 2, none⟩ = some (.bool (l[i]).f2) ∧ w.cell? ⟨(ad.add (i * 4)).block, (ad.add (i * 4)).off + 3, none⟩ = some (.int .i64 (l[i]).f3) := by
  have hg : rd_T32 l (i : Int) = l[i] := by simp [rd_T32, hi]
  obtain ⟨ad, h1, h2, h3, h4, h5⟩ := at_T32 h (i : Int) (by omega) (by omega)
  rw [hg] at h2 h3 h4 h5
  exact ⟨ad, h1, by simpa using h2, by simpa using h3, by simpa using h4, by simpa using h5⟩
end Go.Proofs.Ytaejicolhliecaa.Flow

/- How a text is cut plays no part: of every things that are done, a text, a place and a choice the law's call returns true: the walk of the law's function over the contracts of what it calls. No condition. -/
set_option linter.unusedVariables false
namespace Go.Proofs.Ytaejicolhliecaa.HandFlowParts
open Go.RowKit Go.Lib Go.Proofs.Ytaejicolhliecaa.Buf Go.Proofs.Ytaejicolhliecaa.Flow Go.Proofs.Ytaejicolhliecaa.PFl Go.Proofs.YtaejicolhliecaaW.PrintWords

theorem cF (A : Option Addr) (c : Nat) (l : List S32) (hc : Hid (l.length ≤ c)) (w : World) (hr : Hid (Kd.C k32 w A l.length l)) {r : Bool} (h : Hid (fewB l = r)) : Calls Try.prog 16 #[.slice A l.length c] w fun e w' => e = .returned (.bool r) ∧ Hid (Below w.heap.size w w') := by
  refine (flailref18_Few.calls (l.length + 1) A c l r w hr.out hc.out (by rw [few_at, h.out])).mono ?_
  rintro e w' ⟨h1, h2⟩
  exact ⟨h1, Lib.hid h2.below⟩
theorem cA (w : World) : Calls Try.prog 15 #[] w fun e w' => e = .returned (.bool true) ∧ Hid (Below w.heap.size w w') := (awake_at w).mono fun e w' h => ⟨h.1, Lib.hid h.2⟩

theorem put_cut (k : Bool) (s : ByteArray) (m : M) (K : Nat) (hK : K ≤ s.size) : m.put k s.data.toList = (m.put k (s.extract 0 K).data.toList).put k (s.extract K s.size).data.toList := by
  have h : s.data.toList = (s.extract 0 K).data.toList ++ (s.extract K s.size).data.toList := by
    simp only [ByteArray.data_extract, Array.toList_extract, List.extract_eq_take_drop, List.drop_zero, Nat.sub_zero]
    have : s.data.toList.length = s.size := by simp
    rw [← this, ← List.length_drop, List.take_length, List.take_append_drop]
  conv => lhs; rw [h]
  unfold M.put
  rw [List.foldl_append]

set_option maxHeartbeats 4000000 in
set_option maxRecDepth 100000 in
theorem parts_off (A : Option Addr) (c : Nat) (l : List S32) (s : ByteArray) (at_ : Int) (k : Bool) (w : World) (hr : Kd.C k32 w A l.length l) (hc : l.length ≤ c) (hoff : fewB l = false ∨ 100 < s.size) : Calls Try.prog 8 #[.slice A l.length c, .string s, .int .u8 at_, .bool k] w fun e w' => e = .returned (.bool true) ∧ Below w.heap.size w w' := by
  have H0 := Lib.hid (sys_nil w)
  have HR := Lib.hid hr
  have HC := Lib.hid hc
  clear hr hc
  cases hf : fewB l with
  | false =>
    have HF := Lib.hid hf
    clear hoff hf
    go_enter Try.func8, Try.ntmps8
    go_wp2_with fail
    refine (cA _).mono ?_
    rintro e w1 ⟨rfl, hb1⟩
    have HR1 := Lib.hid (Kd.C_below HR.out hb1.out)
    go_wp2_with fail
    refine (cF A c l HC w1 HR1 HF).mono ?_
    rintro e w2 ⟨rfl, hb2⟩
    have HB := Lib.hid (below_step hb1.out hb2.out)
    go_wp2_with fail
    go_ret
    exact ⟨rfl, HB.out⟩
  | true =>
    have HF := Lib.hid hf
    have hs : 100 < s.size := by
      rcases hoff with h | h
      · rw [hf] at h
        cases h
      · exact h
    have d1 : decide (100 < (s.size : Int)) = true := decide_eq_true (by omega)
    have d2 : decide (100 < s.size) = true := decide_eq_true hs
    clear hoff hf
    go_enter Try.func8, Try.ntmps8
    go_wp2_with fail
    refine (cA _).mono ?_
    rintro e w1 ⟨rfl, hb1⟩
    have HR1 := Lib.hid (Kd.C_below HR.out hb1.out)
    go_wp2_with fail
    refine (cF A c l HC w1 HR1 HF).mono ?_
    rintro e w2 ⟨rfl, hb2⟩
    have HB := Lib.hid (below_step hb1.out hb2.out)
    go_wp2_with fail
    go_ret
    exact ⟨rfl, HB.out⟩

set_option maxHeartbeats 4000000 in
set_option maxRecDepth 100000 in
theorem parts_on (A : Option Addr) (c : Nat) (l : List S32) (s : ByteArray) (at_ : Int) (hat : 0 ≤ at_ ∧ at_ ≤ 255) (k : Bool) (w : World) (hr : Kd.C k32 w A l.length l) (hc : l.length ≤ c) (hwf : ∀ x ∈ l, (Lit.int .i64 x.f3).wf = true) (hf : fewB l = true) (hs : s.size ≤ 100) : Calls Try.prog 8 #[.slice A l.length c, .string s, .int .u8 at_, .bool k] w fun e w' => e = .returned (.bool true) ∧ Below w.heap.size w w' := by
  have H0 := Lib.hid (sys_nil w)
  have HR := Lib.hid hr
  have HC := Lib.hid hc
  have HF := Lib.hid hf
  have HW := Lib.hid hwf
  have d1 : decide (100 < (s.size : Int)) = false := decide_eq_false (by omega)
  have d2 : decide (100 < s.size) = false := decide_eq_false (by omega)
  clear hr hc hf hwf
  go_enter Try.func8, Try.ntmps8
  go_wp2_with fail
  refine (cA _).mono ?_
  rintro e w1 ⟨rfl, hb1⟩
  have HR1 := Lib.hid (Kd.C_below HR.out hb1.out)
  go_wp2_with fail
  refine (cF A c l HC w1 HR1 HF).mono ?_
  rintro e w2 ⟨rfl, hb2⟩
  have H1 := Lib.hid (H0.out.then (below_step hb1.out hb2.out))
  clear hb1 hb2 HR1
  go_wp2_with fail
  refine (sys_new H1.out).mono ?_
  rintro e w3 ⟨f, rfl, H2⟩
  go_wp2_with fail
  refine (sys_new H2.out).mono ?_
  rintro e w4 ⟨g, rfl, H3⟩
  have H4 : Hid (Flow.Sys w w4 [(f, M.none), (g, M.none)]) := H3
  clear H0 H1 H2 H3
  go_wp2_with fail
  go_loopg [13] (l.length + 1) (fun kq v w' => ∃ i : Nat, v = .int .i64 i ∧ Hid (i ≤ l.length) ∧ Hid (l.length < i + kq) ∧ Hid (Flow.Sys w w' [(f, doAll (l.take i) M.none), (g, doAll (l.take i) M.none)]))
  case atStart => exact ⟨0, rfl, Lib.hid (Nat.zero_le _), Lib.hid (by omega), H4⟩
  case round =>
    obtain ⟨i, rfl, HI, HK, HS⟩ := hrel
    clear H4
    have hi := HI.out
    have hall := few_all HF.out
    by_cases hlt : i < l.length
    · have d3 : decide ((i : Int) < (l.length : Int)) = true := decide_eq_true (by omega)
      have d4 : decide (i < l.length) = true := decide_eq_true hlt
      obtain ⟨x, hx⟩ : ∃ x, l[i] = x := ⟨_, rfl⟩
      have hmem : x ∈ l := hx ▸ List.getElem_mem hlt
      have hw := HW.out x hmem
      have hx1 := hall.2 x hmem
      have hsz := doAll_size (l.take i) M.none (fun y hy => hall.2 y (List.mem_of_mem_take hy))
      have hsz2 : (doAll (l.take i) M.none).size + x.f1.size ≤ 900000000 := by
        have h60 := hall.1
        simp [M.none, M.size] at hsz ⊢
        omega
      have HZ : Hid ((doAll (l.take i) M.none).size + (act x).s.size ≤ 900000000) := Lib.hid hsz2
      have HN := Lib.hid (show doAll (l.take (i + 1)) M.none = (doAll (l.take i) M.none).does (act x) by rw [take_one l i hlt, hx, doAll_snoc])
      obtain ⟨ad, rfl, c0, c1, c2, c3⟩ := act_cells (Kd.C_below HR.out HS.out.below) i hlt
      rw [hx] at c0 c1 c2 c3
      have hx0 := Lib.hid hx
      have hi60 : i ≤ 60 := by have := hall.1; omega
      clear hx hsz hsz2 hmem hx1 hall
      generalize doAll (l.take i) M.none = m1 at HS HZ HN
      cases gk with
      | zero => exact absurd HK.out (by omega)
      | succ k1 =>
        go_wp2_with fail
        refine (sys_does 0 HS rfl (act x) hw HZ).mono ?_
        rintro e w5 ⟨rfl, H5⟩
        have H6 : Hid (Flow.Sys w w5 [(f, m1.does (act x)), (g, m1)]) := H5
        clear c0 c1 c2 c3 H5
        obtain ⟨ad2, e2, c0, c1, c2, c3⟩ := act_cells (Kd.C_below HR.out H6.out.below) i hlt
        obtain rfl := Option.some.inj e2
        obtain ⟨y, hy⟩ : ∃ y, l[i] = y := ⟨_, rfl⟩
        rw [hy] at c0 c1 c2 c3
        have hyx : y = x := by rw [← hy, hx0.out]
        subst hyx
        clear hy
        go_wp2_with fail
        refine (sys_does 1 H6 rfl (act y) hw HZ).mono ?_
        rintro e w6 ⟨rfl, H7⟩
        have H8 : Hid (Flow.Sys w w6 [(f, doAll (l.take (i + 1)) M.none), (g, doAll (l.take (i + 1)) M.none)]) := by rw [HN.out]; exact H7
        clear c0 c1 c2 c3 H7 H6
        go_wp2_with fail
        go_roundg k1
        case measure => omega
        case rel => exact ⟨i + 1, rfl, Lib.hid (by omega), Lib.hid (by have := HK.out; omega), H8⟩
    · have d3 : decide ((i : Int) < (l.length : Int)) = false := decide_eq_false (by omega)
      have d4 : decide (i < l.length) = false := decide_eq_false hlt
      have hie : i = l.length := by omega
      subst hie
      have hsz := doAll_size l M.none hall.2
      have HZ := Lib.hid (show (doAll l M.none).size ≤ 100000 by
        have h60 := hall.1
        simp [M.none, M.size] at hsz ⊢
        omega)
      have HS2 : Hid (Flow.Sys w wr [(f, doAll l M.none), (g, doAll l M.none)]) := Lib.hid (by have := HS.out; rw [List.take_length] at this; exact this)
      clear HS hsz hall hlt HI HK
      generalize doAll l M.none = m1 at HS2 HZ
      obtain ⟨K, hK⟩ : ∃ K : Nat, at_ % ((s.size : Int) + 1) = K := ⟨(at_ % ((s.size : Int) + 1)).toNat, by have := Int.emod_nonneg at_ (show (s.size : Int) + 1 ≠ 0 by omega); omega⟩
      have hKs : K ≤ s.size := by have := Int.emod_lt_of_pos at_ (show (0 : Int) < (s.size : Int) + 1 by omega); omega
      have b1 : decide ((K : Int) ≤ (s.size : Int)) = true := decide_eq_true (by omega)
      have b2 : decide (K ≤ s.size) = true := decide_eq_true hKs
      have HZ1 := Lib.hid (show m1.size + s.size ≤ 1000000000 by have := HZ.out; omega)
      go_wp2_with fail
      refine (sys_put 0 HS2 rfl s k HZ1).mono ?_
      rintro e w5 ⟨rfl, H5⟩
      have H6 : Hid (Flow.Sys w w5 [(f, m1.put k s.data.toList), (g, m1)]) := H5
      clear H5 HS2
      go_wp2_with fail
      have hz1 := put_size k (s.extract 0 K).data.toList m1
      have hz2 := put_size k s.data.toList m1
      have hl1 : (s.extract 0 K).data.toList.length = K := by simp; omega
      have hl2 : (s.extract K s.size).data.toList.length = s.size - K := by simp
      have hl3 : s.data.toList.length = s.size := by simp
      have hcut := put_cut k s m1 K hKs
      have hq1 : (s.extract 0 K).size = K := by simp; omega
      have hq2 : (s.extract K s.size).size = s.size - K := by simp
      have HZ2 := Lib.hid (show m1.size + (s.extract 0 K).size ≤ 1000000000 by have := HZ.out; omega)
      have HZ3 := Lib.hid (show (m1.put k (s.extract 0 K).data.toList).size + (s.extract K s.size).size ≤ 1000000000 by have := HZ.out; omega)
      have HZ4 := Lib.hid (show (m1.put k s.data.toList).size + (⟨#[]⟩ : ByteArray).size ≤ 1000000000 by have := HZ.out; show _ + 0 ≤ _; omega)
      have HZ5 := Lib.hid (show (m1.put k s.data.toList).size + (⟨#[120]⟩ : ByteArray).size ≤ 1000000000 by have := HZ.out; show _ + 1 ≤ _; omega)
      refine (sys_put 1 H6 rfl (s.extract 0 K) k HZ2).mono ?_
      rintro e w6 ⟨rfl, H7⟩
      have H8 : Hid (Flow.Sys w w6 [(f, m1.put k s.data.toList), (g, m1.put k (s.extract 0 K).data.toList)]) := H7
      clear H7 H6 HZ2 hz1 hz2 hl1 hl2 hl3 hq1 hq2
      go_wp2_with fail
      refine (sys_put 1 H8 rfl (s.extract K s.size) k HZ3).mono ?_
      rintro e w7 ⟨rfl, H9⟩
      have H10 : Hid (Flow.Sys w w7 [(f, m1.put k s.data.toList), (g, m1.put k s.data.toList)]) := Lib.hid (by have := H9.out; rw [← hcut] at this; exact this)
      clear H9 H8 HZ3 hcut
      generalize m1.put k s.data.toList = m2 at H10 HZ4 HZ5
      go_wp2_with fail
      refine (sys_put 1 H10 rfl ⟨#[]⟩ (!k) HZ4).mono ?_
      rintro e w8 ⟨rfl, H11⟩
      have H12 : Hid (Flow.Sys w w8 [(f, m2), (g, m2)]) := H11
      clear H11 H10
      go_wp2_with fail
      refine (sys_text 0 H12 rfl).mono ?_
      rintro e w9 ⟨rfl, H13⟩
      go_wp2_with fail
      refine (sys_text 1 H13 rfl).mono ?_
      rintro e w10 ⟨rfl, H14⟩
      have e1 : (m2.told == m2.told) = true := beq_self_eq_true _
      go_wp2_with fail
      refine (sys_put 0 H14 rfl ⟨#[120]⟩ k HZ5).mono ?_
      rintro e w11 ⟨rfl, H15⟩
      have H16 : Hid (Flow.Sys w w11 [(f, m2.put k [120]), (g, m2)]) := H15
      go_wp2_with fail
      refine (sys_put 1 H16 rfl ⟨#[120]⟩ k HZ5).mono ?_
      rintro e w12 ⟨rfl, H17⟩
      have H18 : Hid (Flow.Sys w w12 [(f, m2.put k [120]), (g, m2.put k [120])]) := H17
      generalize m2.put k [120] = m3 at H18
      have e2 : (m3.told == m3.told) = true := beq_self_eq_true _
      go_wp2_with fail
      refine (sys_text 0 H18 rfl).mono ?_
      rintro e w13 ⟨rfl, H19⟩
      go_wp2_with fail
      refine (sys_text 1 H19 rfl).mono ?_
      rintro e w14 ⟨rfl, H20⟩
      go_wp2_with fail
      go_ret
      exact ⟨rfl, H20.out.below⟩

theorem parts_row (A : Option Addr) (len c : Nat) (s : ByteArray) (at_ : Int) (k : Bool) (w : World) (l : List S32) (hl : l.length = len) (hr : Kd.C k32 w A l.length l) (hc : len ≤ c) (hwf : ∀ x ∈ l, (Lit.int .i64 x.f3).wf = true) (h1 : s.size ≤ 140737488351232) (h2 : (Lit.int .u8 at_).wf = true) : Calls Try.prog 8 #[.slice A len c, .string s, .int .u8 at_, .bool k] w fun e w' => e = .returned (.bool true) ∧ Below w.heap.size w w' := by
  subst hl
  simp only [Lit.wf, Bool.and_eq_true, decide_eq_true_eq] at h2
  by_cases hf : fewB l = true
  · by_cases hs : s.size ≤ 100
    · exact parts_on A c l s at_ h2 k w hr hc hwf hf hs
    · exact parts_off A c l s at_ k w hr hc (Or.inr (by omega))
  · exact parts_off A c l s at_ k w hr hc (Or.inl (by simpa using hf))
end Go.Proofs.Ytaejicolhliecaa.HandFlowParts

/- What is told neither begins nor ends with a blank, and has no byte 0, and no 13: of every things that are done the law's call returns true: the walk of the law's function over the contracts of what it calls. No condition. -/
set_option linter.unusedVariables false
namespace Go.Proofs.Ytaejicolhliecaa.HandFlowEdges
open Go.RowKit Go.Lib Go.Proofs.Ytaejicolhliecaa.Buf Go.Proofs.Ytaejicolhliecaa.Flow Go.Proofs.Ytaejicolhliecaa.PFl Go.Proofs.YtaejicolhliecaaW.PrintWords Go.Proofs.Ytaejicolhliecaa.HandFlowParts

/-- What holds of every flow. -/
structure Edge (m : M) : Prop where
  told : ∀ c ∈ m.told, c ≠ 0 ∧ c ≠ 13
  head : ∀ c, m.told.head? = some c → isBlank c = false
  last : ∀ c, m.told.getLast? = some c → isBlank c = false
  blanks : ∀ c ∈ m.blanks, c ≠ 0 ∧ c ≠ 10 ∧ c ≠ 13 ∧ isBlank c = true

theorem edge_none : Edge M.none := ⟨by simp [M.none], by simp [M.none], by simp [M.none], by simp [M.none]⟩
theorem edge_line {m : M} (h : Edge m) : Edge m.line := ⟨h.told, h.head, h.last, by simp [M.line]⟩
theorem edge_brk {m : M} (h : Edge m) (n : Int) : Edge (m.brk n) := ⟨h.told, h.head, h.last, by simp [M.brk]⟩
theorem edge_lose {m : M} (h : Edge m) : Edge m.lose := by
  unfold M.lose
  split
  · exact ⟨h.told, h.head, h.last, by simp; decide⟩
  · exact h
theorem edge_keep {m : M} (h : Edge m) (c : UInt8) (h0 : c ≠ 0) (hb : isBlank c = true) : Edge (m.keep c) := by
  unfold M.keep
  split
  · exact edge_line h
  · rename_i hn
    refine ⟨h.told, h.head, h.last, fun x hx => ?_⟩
    rcases List.mem_append.1 hx with hx | hx
    · exact h.blanks x hx
    · simp only [List.mem_singleton] at hx
      subst hx
      exact ⟨h0, fun e => hn (Or.inl e), fun e => hn (Or.inr e), hb⟩
theorem edge_word {m : M} (h : Edge m) (c : UInt8) (h0 : c ≠ 0) (hb : isBlank c = false) : Edge (m.word c) := by
  have h13 : c ≠ 13 := fun e => by subst e; revert hb; decide
  unfold M.word
  refine ⟨fun x hx => ?_, fun x hx => ?_, fun x hx => ?_, by simp⟩
  · simp only at hx
    rcases List.mem_append.1 hx with hx | hx
    · split at hx
      · simp at hx
      · rcases List.mem_append.1 hx with hx | hx
        · rcases List.mem_append.1 hx with hx | hx
          · exact h.told x hx
          · have := List.eq_of_mem_replicate hx
            subst this
            decide
        · exact ⟨(h.blanks x hx).1, (h.blanks x hx).2.2.1⟩
    · simp only [List.mem_singleton] at hx
      subst hx
      exact ⟨h0, h13⟩
  · simp only at hx
    split at hx
    · simp at hx
      subst hx
      exact hb
    · rename_i hne
      refine h.head x ?_
      cases ht : m.told with
      | nil => exact absurd ht hne
      | cons y r => simpa [ht] using hx
  · simp only [List.getLast?_append, List.getLast?_singleton, Option.some_or, Option.some.injEq] at hx
    subst hx
    exact hb
theorem edge_put1 {m : M} (h : Edge m) (k : Bool) (c : UInt8) : Edge (m.put1 k c) := by
  unfold M.put1
  split
  · exact h
  · rename_i h0
    split
    · rename_i hb
      split
      · exact edge_keep h c h0 hb
      · exact edge_lose h
    · rename_i hb
      exact edge_word h c h0 (by simpa using hb)
theorem edge_put (k : Bool) : ∀ (s : List UInt8) {m : M}, Edge m → Edge (m.put k s)
  | [], m, h => h
  | c :: s, m, h => edge_put k s (edge_put1 h k c)
theorem edge_does {m : M} (h : Edge m) (a : Flow.Act) : Edge (m.does a) := by
  unfold M.does
  split
  · exact edge_put _ _ h
  · split
    · exact edge_brk h _
    · split
      · exact edge_line h
      · exact h
theorem edge_all : ∀ (l : List S32) {m : M}, Edge m → Edge (doAll l m)
  | [], m, h => h
  | x :: l, m, h => edge_all l (edge_does h (act x))

theorem byte_mem (S : ByteArray) (j : Nat) (h : j < S.size) : S[j]'h ∈ S.data.toList := by
  have hl : j < S.data.toList.length := by simpa using h
  exact List.getElem_mem hl
theorem byte_head (S : ByteArray) (h : 0 < S.size) : S.data.toList.head? = some (S[0]'h) := by
  have hl : 0 < S.data.toList.length := by simpa using h
  rw [List.head?_eq_getElem?, List.getElem?_eq_getElem hl]
  rfl
theorem byte_last (S : ByteArray) (h : 0 < S.size) : S.data.toList.getLast? = some (S[S.size - 1]'(by omega)) := by
  have hl : S.data.toList.length = S.size := by simp
  rw [List.getLast?_eq_getElem?, hl, List.getElem?_eq_getElem (by omega)]
  rfl
theorem blank_law (c : UInt8) : flaillaw18_blank.f c.toNat = some (isBlank c) := by
  rcases c with ⟨⟨n⟩⟩
  revert n
  decide +kernel
theorem cB (c : UInt8) (w : World) {b : Bool} (hb : Hid (isBlank c = b)) : Calls Try.prog 21 #[.int .u8 c.toNat] w fun e w' => e = .returned (.bool b) ∧ Drawn0 w w' := flaillaw18_blank.calls c.toNat b w (by rw [blank_law, hb.out])

set_option maxHeartbeats 4000000 in
set_option maxRecDepth 100000 in
theorem edges_off (A : Option Addr) (c : Nat) (l : List S32) (w : World) (hr : Kd.C k32 w A l.length l) (hc : l.length ≤ c) (hf : fewB l = false) : Calls Try.prog 4 #[.slice A l.length c] w fun e w' => e = .returned (.bool true) ∧ Below w.heap.size w w' := by
  have HR := Lib.hid hr
  have HC := Lib.hid hc
  have HF := Lib.hid hf
  clear hr hc hf
  go_enter Try.func4, Try.ntmps4
  go_wp2_with fail
  refine (cA _).mono ?_
  rintro e w1 ⟨rfl, hb1⟩
  have HR1 := Lib.hid (Kd.C_below HR.out hb1.out)
  go_wp2_with fail
  refine (cF A c l HC w1 HR1 HF).mono ?_
  rintro e w2 ⟨rfl, hb2⟩
  have HB := Lib.hid (below_step hb1.out hb2.out)
  go_wp2_with fail
  go_ret
  exact ⟨rfl, HB.out⟩

set_option maxHeartbeats 4000000 in
set_option maxRecDepth 100000 in
theorem edges_on (A : Option Addr) (c : Nat) (l : List S32) (w : World) (hr : Kd.C k32 w A l.length l) (hc : l.length ≤ c) (hwf : ∀ x ∈ l, (Lit.int .i64 x.f3).wf = true) (hf : fewB l = true) : Calls Try.prog 4 #[.slice A l.length c] w fun e w' => e = .returned (.bool true) ∧ Below w.heap.size w w' := by
  have H0 := Lib.hid (sys_nil w)
  have HR := Lib.hid hr
  have HC := Lib.hid hc
  have HF := Lib.hid hf
  have HW := Lib.hid hwf
  clear hr hc hf hwf
  go_enter Try.func4, Try.ntmps4
  go_wp2_with fail
  refine (cA _).mono ?_
  rintro e w1 ⟨rfl, hb1⟩
  have HR1 := Lib.hid (Kd.C_below HR.out hb1.out)
  go_wp2_with fail
  refine (cF A c l HC w1 HR1 HF).mono ?_
  rintro e w2 ⟨rfl, hb2⟩
  have H1 := Lib.hid (H0.out.then (below_step hb1.out hb2.out))
  clear hb1 hb2 HR1
  go_wp2_with fail
  refine (sys_new H1.out).mono ?_
  rintro e w3 ⟨f, rfl, H2⟩
  have H4 : Hid (Flow.Sys w w3 [(f, M.none)]) := H2
  clear H0 H1 H2
  go_wp2_with fail
  go_loopg [6] (l.length + 1) (fun kq v w' => ∃ i : Nat, v = .int .i64 i ∧ Hid (i ≤ l.length) ∧ Hid (l.length < i + kq) ∧ Hid (Flow.Sys w w' [(f, doAll (l.take i) M.none)]))
  case atStart => exact ⟨0, rfl, Lib.hid (Nat.zero_le _), Lib.hid (by omega), H4⟩
  case round =>
    obtain ⟨i, rfl, HI, HK, HS⟩ := hrel
    clear H4
    have hi := HI.out
    have hall := few_all HF.out
    by_cases hlt : i < l.length
    · have d3 : decide ((i : Int) < (l.length : Int)) = true := decide_eq_true (by omega)
      have d4 : decide (i < l.length) = true := decide_eq_true hlt
      obtain ⟨x, hx⟩ : ∃ x, l[i] = x := ⟨_, rfl⟩
      have hmem : x ∈ l := hx ▸ List.getElem_mem hlt
      have hw := HW.out x hmem
      have hx1 := hall.2 x hmem
      have hsz := doAll_size (l.take i) M.none (fun y hy => hall.2 y (List.mem_of_mem_take hy))
      have hsz2 : (doAll (l.take i) M.none).size + x.f1.size ≤ 900000000 := by
        have h60 := hall.1
        simp [M.none, M.size] at hsz ⊢
        omega
      have HZ : Hid ((doAll (l.take i) M.none).size + (act x).s.size ≤ 900000000) := Lib.hid hsz2
      have HN := Lib.hid (show doAll (l.take (i + 1)) M.none = (doAll (l.take i) M.none).does (act x) by rw [take_one l i hlt, hx, doAll_snoc])
      obtain ⟨ad, rfl, c0, c1, c2, c3⟩ := act_cells (Kd.C_below HR.out HS.out.below) i hlt
      rw [hx] at c0 c1 c2 c3
      have hi60 : i ≤ 60 := by have := hall.1; omega
      clear hx hsz hsz2 hmem hx1 hall
      generalize doAll (l.take i) M.none = m1 at HS HZ HN
      cases gk with
      | zero => exact absurd HK.out (by omega)
      | succ k1 =>
        go_wp2_with fail
        refine (sys_does 0 HS rfl (act x) hw HZ).mono ?_
        rintro e w5 ⟨rfl, H5⟩
        have H8 : Hid (Flow.Sys w w5 [(f, doAll (l.take (i + 1)) M.none)]) := by rw [HN.out]; exact H5
        clear c0 c1 c2 c3 H5
        go_wp2_with fail
        go_roundg k1
        case measure => omega
        case rel => exact ⟨i + 1, rfl, Lib.hid (by omega), Lib.hid (by have := HK.out; omega), H8⟩
    · have d3 : decide ((i : Int) < (l.length : Int)) = false := decide_eq_false (by omega)
      have d4 : decide (i < l.length) = false := decide_eq_false hlt
      have hie : i = l.length := by omega
      subst hie
      have hsz := doAll_size l M.none hall.2
      have HZ := Lib.hid (show (doAll l M.none).size ≤ 100000 by
        have h60 := hall.1
        simp [M.none, M.size] at hsz ⊢
        omega)
      have HE := Lib.hid (edge_all l edge_none)
      have HS2 : Hid (Flow.Sys w wr [(f, doAll l M.none)]) := Lib.hid (by have := HS.out; rw [List.take_length] at this; exact this)
      clear HS hsz hall hlt HI HK
      generalize doAll l M.none = m1 at HS2 HZ HE
      go_wp2_with fail
      refine (sys_text 0 HS2 rfl).mono ?_
      rintro e w5 ⟨rfl, H5⟩
      have HL := Lib.hid (show (⟨m1.told.toArray⟩ : ByteArray).size ≤ 100000 by
        have := HZ.out
        unfold M.size at this
        show m1.told.toArray.size ≤ _
        simp
        omega)
      obtain ⟨S, hS⟩ : ∃ S : ByteArray, S = ⟨m1.told.toArray⟩ := ⟨_, rfl⟩
      have ES := Lib.hid (show m1.told = S.data.toList by rw [hS])
      rw [← hS] at HL ⊢
      clear hS
      go_wp2_with fail
      go_loopg [8] (S.size + 1) (fun kq v w' => ∃ j : Nat, v = .int .i64 j ∧ Hid (j ≤ S.size) ∧ Hid (S.size < j + kq) ∧ Hid (w' = w5))
      case atStart => exact ⟨0, rfl, Lib.hid (Nat.zero_le _), Lib.hid (by omega), Lib.hid rfl⟩
      case round =>
        obtain ⟨j, rfl, HI, HK, HWW⟩ := hrel
        obtain rfl := HWW.out
        have hj := HI.out
        have hSl := HL.out
        have hHE := HE.out.told
        rw [ES.out] at hHE
        by_cases hlt : j < S.size
        · have d5 : decide ((j : Int) < (S.size : Int)) = true := decide_eq_true (by omega)
          have d6 : decide (j < S.size) = true := decide_eq_true hlt
          obtain ⟨c, hcc⟩ : ∃ c, S[j]'hlt = c := ⟨_, rfl⟩
          have hcm := hHE c (by rw [← hcc]; exact byte_mem S j hlt)
          have e1 : ((c.toNat : Int) == 0) = false := by
            rw [beq_eq_false_iff_ne]
            intro e
            exact hcm.1 (UInt8.toNat_inj.1 (by simpa using (by omega : c.toNat = 0)))
          have e2 : ((c.toNat : Int) == 13) = false := by
            rw [beq_eq_false_iff_ne]
            intro e
            exact hcm.2 (UInt8.toNat_inj.1 (by simpa using (by omega : c.toNat = 13)))
          clear hHE hcm
          cases gk with
          | zero => exact absurd HK.out (by omega)
          | succ k1 =>
            go_wp2_with fail
            go_roundg k1
            case measure => omega
            case rel => exact ⟨j + 1, rfl, Lib.hid (by omega), Lib.hid (by have := HK.out; omega), Lib.hid rfl⟩
        · have d5 : decide ((j : Int) < (S.size : Int)) = false := decide_eq_false (by omega)
          have d6 : decide (j < S.size) = false := decide_eq_false hlt
          clear hHE hlt HI HK
          by_cases hS0 : S.data.toList = []
          · have q3a : (S.toList == []) = true := by rw [ByteArray.toList_eq, hS0]; rfl
            have q3b : S.toList.isEmpty = true := by rw [ByteArray.toList_eq, hS0]; rfl
            clear hS0
            go_wp2_with fail
            go_ret
            exact ⟨rfl, H5.out.below⟩
          · have q3a : (S.toList == []) = false := by rw [ByteArray.toList_eq]; exact beq_eq_false_iff_ne.2 hS0
            have q3b : S.toList.isEmpty = false := by rw [ByteArray.toList_eq]; cases hh : S.data.toList <;> simp_all
            have hpos : 0 < S.size := by
              have := List.length_pos_iff.2 hS0
              simpa using this
            have d7 : decide ((0 : Int) < (S.size : Int)) = true := decide_eq_true (by omega)
            have d8 : decide (0 < S.size) = true := decide_eq_true hpos
            clear hS0
            have hh0 : isBlank (S[0]'hpos) = false := HE.out.head _ (by rw [ES.out]; exact byte_head S hpos)
            have hh1 : isBlank (S[S.size - 1]'(by omega)) = false := HE.out.last _ (by rw [ES.out]; exact byte_last S hpos)
            have HH0 := Lib.hid hh0
            have HH1 := Lib.hid hh1
            clear hh0 hh1
            go_wp2_with fail
            refine (cB _ _ HH0).mono ?_
            rintro e w' ⟨rfl, ⟨nd, rfl⟩⟩
            go_wp2_with fail
            refine (cB _ _ HH1).mono ?_
            rintro e w' ⟨rfl, ⟨nd2, rfl⟩⟩
            have HB := Lib.hid (pw_below_drewN H5.out.below (nd + nd2))
            go_wp2_with fail
            go_ret
            exact ⟨rfl, HB.out⟩

theorem edges_row (A : Option Addr) (len c : Nat) (w : World) (l : List S32) (hl : l.length = len) (hr : Kd.C k32 w A l.length l) (hc : len ≤ c) (hwf : ∀ x ∈ l, (Lit.int .i64 x.f3).wf = true) : Calls Try.prog 4 #[.slice A len c] w fun e w' => e = .returned (.bool true) ∧ Below w.heap.size w w' := by
  subst hl
  by_cases hf : fewB l = true
  · exact edges_on A c l w hr hc hwf hf
  · exact edges_off A c l w hr hc (by simpa using hf)
end Go.Proofs.Ytaejicolhliecaa.HandFlowEdges

/- Words stay, and their order: with all blanks taken out, what is told is what was put, without blanks, and the byte 0: of every things that are done the law's call returns true: the walk of the law's function over the contracts of what it calls. No condition. -/
set_option linter.unusedVariables false
namespace Go.Proofs.Ytaejicolhliecaa.HandFlowWords
open Go.RowKit Go.Lib Go.Proofs.Ytaejicolhliecaa.Buf Go.Proofs.Ytaejicolhliecaa.Flow Go.Proofs.Ytaejicolhliecaa.PFl Go.Proofs.YtaejicolhliecaaW.PrintWords Go.Proofs.Ytaejicolhliecaa.HandFlowParts Go.Proofs.Ytaejicolhliecaa.HandFlowEdges

/-- A string of one byte, out of a new row. -/
theorem conv_one (W : World) (b : UInt8) : (convert 36 9 (.slice (some ⟨W.heap.size, 0, none⟩) 1 1)).run Try.prog (W.alloc (.cells #[.int .u8 b.toNat] 5)) = .ok (.string ⟨#[b]⟩) (W.alloc (.cells #[.int .u8 b.toNat] 5)) := by
  have hr : Kd.C (Kd.int .u8) (W.alloc (.cells #[.int .u8 b.toNat] 5)) (some ⟨W.heap.size, 0, none⟩) 1 [(b.toNat : Int)] := by
    refine Kd.C_of_reads (h1 := fun _ => rfl) (d := 0) ⟨rfl, by decide, fun _ => ⟨_, rfl, fun j hj => ?_⟩⟩
    have hj0 : j = 0 := by omega
    subst hj0
    have hadd : (⟨W.heap.size, 0, none⟩ : Addr).add 0 = ⟨W.heap.size, 0, none⟩ := by unfold Addr.add; split <;> simp_all
    rw [hadd, Lib.cell_of_heap (heap_alloc_new W _)]
    rfl
  rw [Kd.C_string Try.underlying36 Try.underlying5 Try.underlying9 hr]
  have : strOfNums [(b.toNat : Int)] = ⟨#[b]⟩ := by
    apply ByteArray.ext
    simp [strOfNums]
  rw [this]

theorem byte_slice (T : ByteArray) (j : Nat) (h : j < T.size) : (T.extract j (j + 1)).data.toList = [T[j]'h] := by
  have hl : j < T.data.toList.length := by simpa using h
  simp only [ByteArray.data_extract, Array.toList_extract, List.extract_eq_take_drop]
  rw [List.drop_eq_getElem_cons hl]
  simp
  rfl

theorem slice_one (T : ByteArray) (j : Nat) (h : j < T.size) (hs : T.size ≤ 100000) (W : World) : (Instr.slice 9 (.string T) (some (.int .i64 j)) (some (.int .i64 (j + 1))) none).run Try.prog W = .ok (.string (T.extract j (j + 1))) W := by
  have h1 : (0 : Int) ≤ (j : Int) := by omega
  have h2 : (0 : Int) ≤ (j : Int) + 1 := by omega
  have h3 : (j : Int) ≤ (j : Int) + 1 := by omega
  have h4 : (j : Int) + 1 ≤ (T.size : Int) := by omega
  have h5 : ((j : Int) + 1).toNat = j + 1 := by omega
  simp [Instr.slice, run_underlying Try.underlying9, Instr.sliceBounds, run_sliceBound, sliced, h1, h2, h3, h4, h5]

/-- What is no blank. -/
def bare (l : List UInt8) : List UInt8 := l.filter fun c => !isBlank c
/-- What is to be told of a text. -/
def words (l : List UInt8) : List UInt8 := l.filter fun c => c != 0 && !isBlank c
/-- .. of a thing that is done. -/
def wordsOf (x : S32) : List UInt8 := if x.f0 = 0 then words x.f1.data.toList else []
theorem bare_app (a b : List UInt8) : bare (a ++ b) = bare a ++ bare b := by simp [bare]
theorem bare_tens (n : Nat) : bare (List.replicate n 10) = [] := by
  unfold bare
  rw [List.filter_eq_nil_iff]
  intro c hc
  rw [List.eq_of_mem_replicate hc]
  decide
theorem bare_blanks (bl : List UInt8) (h : ∀ c ∈ bl, c ≠ 0 ∧ c ≠ 10 ∧ c ≠ 13 ∧ isBlank c = true) : bare bl = [] := by
  unfold bare
  rw [List.filter_eq_nil_iff]
  intro c hc
  rw [(h c hc).2.2.2]
  decide
theorem bare_put1 {m : M} (he : HandFlowEdges.Edge m) (k : Bool) (c : UInt8) : bare (m.put1 k c).told = bare m.told ++ words [c] := by
  unfold M.put1
  by_cases h0 : c = 0
  · rw [if_pos h0, h0]
    simp [words]
  · rw [if_neg h0]
    cases hb : isBlank c with
    | true =>
      rw [if_pos rfl]
      have hw : words [c] = [] := by simp [words, hb]
      rw [hw, List.append_nil]
      split
      · unfold M.keep
        split <;> rfl
      · unfold M.lose
        split <;> rfl
    | false =>
      rw [if_neg (by simp)]
      have hw : words [c] = [c] := by simp [words, hb, h0]
      rw [hw]
      have hc : bare [c] = [c] := by simp [bare, hb]
      unfold M.word
      simp only
      rw [bare_app, hc]
      congr 1
      split
      · rename_i ht
        rw [ht]
      · rw [bare_app, bare_app, bare_tens, bare_blanks _ he.blanks]
        simp
theorem words_cons (c : UInt8) (s : List UInt8) : words (c :: s) = words [c] ++ words s := by
  unfold words
  rw [← List.filter_append]
  rfl
theorem bare_put (k : Bool) : ∀ (s : List UInt8) {m : M}, HandFlowEdges.Edge m → bare (m.put k s).told = bare m.told ++ words s
  | [], m, _ => by simp [M.put, words]
  | c :: s, m, he => by
    have h1 := bare_put k s (edge_put1 he k c)
    have h2 := bare_put1 he k c
    have : m.put k (c :: s) = (m.put1 k c).put k s := rfl
    rw [this, h1, h2, words_cons c s, List.append_assoc]
theorem bare_does {m : M} (he : HandFlowEdges.Edge m) (x : S32) : bare (m.does (act x)).told = bare m.told ++ wordsOf x := by
  unfold M.does wordsOf
  show bare (if x.f0 = 0 then m.put x.f2 x.f1.data.toList else if x.f0 = 1 then m.brk x.f3 else if x.f0 = 2 then m.line else m).told = _
  split
  · exact bare_put _ _ he
  · rw [List.append_nil]
    split
    · rfl
    · split <;> rfl
def wordsAll (l : List S32) : List UInt8 := l.flatMap wordsOf
theorem wordsAll_snoc (l : List S32) (x : S32) : wordsAll (l ++ [x]) = wordsAll l ++ wordsOf x := by simp [wordsAll]
theorem bare_all : ∀ (l : List S32) {m : M}, HandFlowEdges.Edge m → bare (doAll l m).told = bare m.told ++ wordsAll l
  | [], m, _ => by simp [doAll, wordsAll]
  | x :: l, m, he => by
    have h1 := bare_all l (edge_does he (act x))
    have h2 := bare_does he x
    have : doAll (x :: l) m = doAll l (m.does (act x)) := rfl
    rw [this, h1, h2, List.append_assoc]
    rfl
theorem words_len (l : List UInt8) : (words l).length ≤ l.length := List.length_filter_le _ _
theorem wordsOf_len (x : S32) : (wordsOf x).length ≤ x.f1.size := by
  unfold wordsOf
  split
  · have := words_len x.f1.data.toList
    simpa using this
  · simp
theorem wordsAll_len : ∀ (l : List S32), (∀ x ∈ l, x.f1.size ≤ 100) → (wordsAll l).length ≤ 100 * l.length
  | [], _ => by simp [wordsAll]
  | x :: l, h => by
    have h1 := wordsAll_len l (fun y hy => h y (List.mem_cons_of_mem _ hy))
    have h2 := wordsOf_len x
    have h3 := h x List.mem_cons_self
    simp only [wordsAll, List.flatMap_cons, List.length_append, List.length_cons] at h1 ⊢
    omega

set_option maxHeartbeats 4000000 in
set_option maxRecDepth 100000 in
theorem words_off (A : Option Addr) (c : Nat) (l : List S32) (w : World) (hr : Kd.C k32 w A l.length l) (hc : l.length ≤ c) (hf : fewB l = false) : Calls Try.prog 5 #[.slice A l.length c] w fun e w' => e = .returned (.bool true) ∧ Below w.heap.size w w' := by
  have HR := Lib.hid hr
  have HC := Lib.hid hc
  have HF := Lib.hid hf
  clear hr hc hf
  go_enter Try.func5, Try.ntmps5
  go_wp2_with fail
  refine (cA _).mono ?_
  rintro e w1 ⟨rfl, hb1⟩
  have HR1 := Lib.hid (Kd.C_below HR.out hb1.out)
  go_wp2_with fail
  refine (cF A c l HC w1 HR1 HF).mono ?_
  rintro e w2 ⟨rfl, hb2⟩
  have HB := Lib.hid (below_step hb1.out hb2.out)
  go_wp2_with fail
  go_ret
  exact ⟨rfl, HB.out⟩

set_option maxHeartbeats 4000000 in
set_option maxRecDepth 100000 in
theorem words_on (A : Option Addr) (c : Nat) (l : List S32) (w : World) (hr : Kd.C k32 w A l.length l) (hc : l.length ≤ c) (hwf : ∀ x ∈ l, (Lit.int .i64 x.f3).wf = true) (hf : fewB l = true) : Calls Try.prog 5 #[.slice A l.length c] w fun e w' => e = .returned (.bool true) ∧ Below w.heap.size w w' := by
  have H0 := Lib.hid (sys_nil w)
  have HR := Lib.hid hr
  have HC := Lib.hid hc
  have HF := Lib.hid hf
  have HW := Lib.hid hwf
  clear hr hc hf hwf
  go_enter Try.func5, Try.ntmps5
  go_wp2_with fail
  refine (cA _).mono ?_
  rintro e w1 ⟨rfl, hb1⟩
  have HR1 := Lib.hid (Kd.C_below HR.out hb1.out)
  go_wp2_with fail
  refine (cF A c l HC w1 HR1 HF).mono ?_
  rintro e w2 ⟨rfl, hb2⟩
  have H1 := Lib.hid (H0.out.then (below_step hb1.out hb2.out))
  clear hb1 hb2 HR1
  go_wp2_with fail
  refine (sys_new H1.out).mono ?_
  rintro e w3 ⟨f, rfl, H2⟩
  have H4 : Hid (Flow.Sys w w3 [(f, M.none)]) := H2
  clear H0 H1 H2
  go_wp2_with fail
  go_loopg [6, 7] (l.length + 1) (fun kq v6 v7 w' => ∃ (S : ByteArray) (i : Nat), v6 = .string S ∧ v7 = .int .i64 i ∧ Hid (S.data.toList = wordsAll (l.take i)) ∧ Hid (i ≤ l.length) ∧ Hid (l.length < i + kq) ∧ Hid (Flow.Sys w w' [(f, doAll (l.take i) M.none)]))
  case atStart => exact ⟨_, 0, rfl, rfl, Lib.hid rfl, Lib.hid (Nat.zero_le _), Lib.hid (by omega), H4⟩
  case round =>
    obtain ⟨S, i, rfl, rfl, HSS, HI, HK, HS⟩ := hrel
    clear H4
    have hi := HI.out
    have hall := few_all HF.out
    by_cases hlt : i < l.length
    · have d3 : decide ((i : Int) < (l.length : Int)) = true := decide_eq_true (by omega)
      have d4 : decide (i < l.length) = true := decide_eq_true hlt
      obtain ⟨x, hx⟩ : ∃ x, l[i] = x := ⟨_, rfl⟩
      have hmem : x ∈ l := hx ▸ List.getElem_mem hlt
      have hw := HW.out x hmem
      have hx1 := hall.2 x hmem
      have hsz := doAll_size (l.take i) M.none (fun y hy => hall.2 y (List.mem_of_mem_take hy))
      have hsz2 : (doAll (l.take i) M.none).size + x.f1.size ≤ 900000000 := by
        have h60 := hall.1
        simp [M.none, M.size] at hsz ⊢
        omega
      have HZ : Hid ((doAll (l.take i) M.none).size + (act x).s.size ≤ 900000000) := Lib.hid hsz2
      have HN := Lib.hid (show doAll (l.take (i + 1)) M.none = (doAll (l.take i) M.none).does (act x) by rw [take_one l i hlt, hx, doAll_snoc])
      have HWN := Lib.hid (show wordsAll (l.take (i + 1)) = wordsAll (l.take i) ++ wordsOf x by rw [take_one l i hlt, hx, wordsAll_snoc])
      have HWL := Lib.hid (show (wordsAll (l.take i)).length ≤ 6000 by
        have h1 := wordsAll_len (l.take i) (fun y hy => hall.2 y (List.mem_of_mem_take hy))
        have h60 := hall.1
        simp at h1
        omega)
      obtain ⟨ad, rfl, c0, c1, c2, c3⟩ := act_cells (Kd.C_below HR.out HS.out.below) i hlt
      rw [hx] at c0 c1 c2 c3
      have hi60 : i ≤ 60 := by have := hall.1; omega
      have HX := Lib.hid hx
      clear hx hsz hsz2 hmem hall
      generalize doAll (l.take i) M.none = m1 at HS HZ HN
      cases gk with
      | zero => exact absurd HK.out (by omega)
      | succ k1 =>
        go_wp2_with fail
        refine (sys_does 0 HS rfl (act x) hw HZ).mono ?_
        rintro e w5 ⟨rfl, H5⟩
        have H8 : Hid (Flow.Sys w w5 [(f, doAll (l.take (i + 1)) M.none)]) := by rw [HN.out]; exact H5
        clear c0 c1 c2 c3 H5
        obtain ⟨m2, hm2⟩ : ∃ m2, doAll (l.take (i + 1)) M.none = m2 := ⟨_, rfl⟩
        have HM2 := Lib.hid hm2
        rw [hm2] at H8
        clear hm2 HN
        obtain ⟨ad2, e2, c0, c1, c2, c3⟩ := act_cells (Kd.C_below HR.out H8.out.below) i hlt
        obtain rfl := Option.some.inj e2
        rw [HX.out] at c0 c1 c2 c3
        clear c2 c3 e2 HS
        by_cases hk0 : x.f0 = 0
        · have k0 : (x.f0 != 0) = false := by rw [hk0]; rfl
          have HWO := Lib.hid (show wordsOf x = words x.f1.data.toList by unfold wordsOf; rw [if_pos hk0])
          clear hk0 c1
          go_wp2_with fail
          go_loopg [6, 8] (x.f1.size + 1) (fun kq v6 v8 w' => ∃ (S2 : ByteArray) (k : Nat), v6 = .string S2 ∧ v8 = .int .i64 k ∧ Hid (S2.data.toList = wordsAll (l.take i) ++ words (x.f1.data.toList.take k)) ∧ Hid (k ≤ x.f1.size) ∧ Hid (x.f1.size < k + kq) ∧ Hid (Flow.Sys w w' [(f, m2)]))
          case atStart => exact ⟨S, 0, rfl, rfl, Lib.hid (by rw [HSS.out]; simp [words]), Lib.hid (Nat.zero_le _), Lib.hid (by omega), H8⟩
          case round =>
            clear H8
            obtain ⟨S2, k, rfl, rfl, HSS2, HI2, HK2, HS2⟩ := hrel
            have hk := HI2.out
            obtain ⟨ad2, e2, c0, c1, _, _⟩ := act_cells (Kd.C_below HR.out HS2.out.below) i hlt
            obtain rfl := Option.some.inj e2
            rw [HX.out] at c0 c1
            clear c0 e2
            by_cases hlt2 : k < x.f1.size
            · have d5 : decide ((k : Int) < (x.f1.size : Int)) = true := decide_eq_true (by omega)
              have d6 : decide (k < x.f1.size) = true := decide_eq_true hlt2
              obtain ⟨b, hbb⟩ : ∃ b, x.f1[k]'hlt2 = b := ⟨_, rfl⟩
              have HTK := Lib.hid (show words (x.f1.data.toList.take (k + 1)) = words (x.f1.data.toList.take k) ++ words [b] by rw [take_snoc x.f1 k hlt2, hbb]; unfold words; rw [List.filter_append])
              cases gk with
              | zero => exact absurd HK2.out (by omega)
              | succ k2 =>
                by_cases hz : b = 0
                · have z1 : ((b.toNat : Int) != 0) = false := by rw [hz]; rfl
                  have hwb : words [b] = [] := by rw [hz]; rfl
                  clear hz
                  go_wp2_with fail
                  go_roundg k2
                  case measure => omega
                  case rel => exact ⟨S2, k + 1, rfl, rfl, Lib.hid (by rw [HSS2.out, HTK.out, hwb, List.append_nil]), Lib.hid (by omega), Lib.hid (by have := HK2.out; omega), HS2⟩
                · have z1 : ((b.toNat : Int) != 0) = true := by
                    rw [bne_iff_ne]
                    intro e
                    exact hz (UInt8.toNat_inj.1 (by simpa using (by omega : b.toNat = 0)))
                  cases hbl : isBlank b with
                  | true =>
                    have hwb : words [b] = [] := by simp [words, hbl]
                    have HBL := Lib.hid hbl
                    clear hz hbl
                    go_wp2_with fail
                    refine (cB _ _ HBL).mono ?_
                    rintro e w' ⟨rfl, ⟨nd, rfl⟩⟩
                    have H11 := Lib.hid (Flow.Sys.drawn (w' := wr) HS2.out nd)
                    go_wp2_with fail
                    go_roundg k2
                    case measure => omega
                    case rel => exact ⟨S2, k + 1, rfl, rfl, Lib.hid (by rw [HSS2.out, HTK.out, hwb, List.append_nil]), Lib.hid (by omega), Lib.hid (by have := HK2.out; omega), H11⟩
                  | false =>
                    have hwb : words [b] = [b] := by simp [words, hbl, hz]
                    have HBL := Lib.hid hbl
                    have hlen2 : S2.size ≤ 7000 := by
                      have h1 := HSS2.out
                      have h2 := congrArg List.length h1
                      have h3 := words_len (x.f1.data.toList.take k)
                      have h4 := HWL.out
                      simp at h2 h3
                      omega
                    have s1 : (S2.size + 1 ≤ 9223372036854775807) = True := eq_true (by omega)
                    have s2 : decide (S2.size + 1 ≤ 9223372036854775807) = true := decide_eq_true (by omega)
                    have s3 : (9223372036854775807 < S2.size + 1) = False := eq_false (by omega)
                    clear hz hbl hlen2
                    go_wp2_with fail
                    refine (cB _ _ HBL).mono ?_
                    rintro e w' ⟨rfl, ⟨nd, rfl⟩⟩
                    have hcv : (convert 36 9 (.slice (some ⟨wr.heap.size, 0, none⟩) 1 1)).run Try.prog ((wr.drewN nd).alloc (.cells #[.int .u8 b.toNat] 5)) = .ok (.string ⟨#[b]⟩) ((wr.drewN nd).alloc (.cells #[.int .u8 b.toNat] 5)) := conv_one (wr.drewN nd) b
                    have H11 := Lib.hid ((Flow.Sys.drawn (w' := wr) HS2.out nd).then ((Below.refl (wr.drewN nd).heap.size (wr.drewN nd)).alloc (Nat.le_refl _) (.cells #[.int .u8 b.toNat] 5)))
                    have HNS := Lib.hid (show (S2 ++ (⟨#[b]⟩ : ByteArray)).data.toList = wordsAll (l.take i) ++ words (x.f1.data.toList.take (k + 1)) by rw [HTK.out, hwb, ByteArray.data_append, Array.toList_append, HSS2.out, List.append_assoc])
                    go_wp2_with fail
                    go_roundg k2
                    case measure => omega
                    case rel => exact ⟨_, k + 1, rfl, rfl, HNS, Lib.hid (by omega), Lib.hid (by have := HK2.out; omega), H11⟩
            · have d5 : decide ((k : Int) < (x.f1.size : Int)) = false := decide_eq_false (by omega)
              have d6 : decide (k < x.f1.size) = false := decide_eq_false hlt2
              have hke : k = x.f1.data.toList.length := by simp; omega
              have HNS := Lib.hid (show S2.data.toList = wordsAll (l.take (i + 1)) by rw [HSS2.out, hke, List.take_length, HWN.out, HWO.out])
              clear hke
              go_wp2_with fail
              go_roundg k1
              case measure => omega
              case rel => exact ⟨S2, i + 1, rfl, rfl, HNS, Lib.hid (by omega), Lib.hid (by have := HK.out; omega), Lib.hid (by rw [HM2.out]; exact HS2.out)⟩
        · have k0 : (x.f0 != 0) = true := bne_iff_ne.2 hk0
          have HWO := Lib.hid (show wordsOf x = [] by unfold wordsOf; rw [if_neg hk0])
          clear hk0
          go_wp2_with fail
          go_roundg k1
          case measure => omega
          case rel => exact ⟨S, i + 1, rfl, rfl, Lib.hid (by rw [HSS.out, HWN.out, HWO.out, List.append_nil]), Lib.hid (by omega), Lib.hid (by have := HK.out; omega), Lib.hid (by rw [HM2.out]; exact H8.out)⟩
    · have d3 : decide ((i : Int) < (l.length : Int)) = false := decide_eq_false (by omega)
      have d4 : decide (i < l.length) = false := decide_eq_false hlt
      have hie : i = l.length := by omega
      subst hie
      have hsz := doAll_size l M.none hall.2
      have HZ := Lib.hid (show (doAll l M.none).size ≤ 100000 by
        have h60 := hall.1
        simp [M.none, M.size] at hsz ⊢
        omega)
      have HE := Lib.hid (bare_all l edge_none)
      have HS2 : Hid (Flow.Sys w wr [(f, doAll l M.none)]) := Lib.hid (by have := HS.out; rw [List.take_length] at this; exact this)
      have HST := Lib.hid (show S.data.toList = wordsAll l by have := HSS.out; rw [List.take_length] at this; exact this)
      clear HS HSS hsz hall hlt HI HK
      generalize doAll l M.none = m1 at HS2 HZ HE
      go_wp2_with fail
      refine (sys_text 0 HS2 rfl).mono ?_
      rintro e w5 ⟨rfl, H5⟩
      have HL := Lib.hid (show (⟨m1.told.toArray⟩ : ByteArray).size ≤ 100000 by
        have := HZ.out
        unfold M.size at this
        show m1.told.toArray.size ≤ _
        simp
        omega)
      obtain ⟨T, hT⟩ : ∃ T : ByteArray, T = ⟨m1.told.toArray⟩ := ⟨_, rfl⟩
      have ES := Lib.hid (show m1.told = T.data.toList by rw [hT])
      rw [← hT] at HL ⊢
      clear hT
      go_wp2_with fail
      go_loopg [11, 12] (T.size + 1) (fun kq v11 v12 w' => ∃ (G : ByteArray) (j : Nat), v11 = .string G ∧ v12 = .int .i64 j ∧ Hid (G.data.toList = bare (T.data.toList.take j)) ∧ Hid (j ≤ T.size) ∧ Hid (T.size < j + kq) ∧ Hid (Flow.Sys w w' [(f, m1)]))
      case atStart => exact ⟨_, 0, rfl, rfl, Lib.hid rfl, Lib.hid (Nat.zero_le _), Lib.hid (by omega), H5⟩
      case round =>
        clear H5
        obtain ⟨G, j, rfl, rfl, HG, HI, HK, HS3⟩ := hrel
        have hj := HI.out
        have hTl := HL.out
        by_cases hlt : j < T.size
        · have d5 : decide ((j : Int) < (T.size : Int)) = true := decide_eq_true (by omega)
          have d6 : decide (j < T.size) = true := decide_eq_true hlt
          obtain ⟨b, hbb⟩ : ∃ b, T[j]'hlt = b := ⟨_, rfl⟩
          have HTK := Lib.hid (show bare (T.data.toList.take (j + 1)) = bare (T.data.toList.take j) ++ bare [b] by rw [take_snoc T j hlt, hbb, bare_app])
          cases gk with
          | zero => exact absurd HK.out (by omega)
          | succ k1 =>
            cases hbl : isBlank b with
            | true =>
              have hwb : bare [b] = [] := by simp [bare, hbl]
              have HBL := Lib.hid hbl
              clear hbl
              go_wp2_with fail
              refine (cB _ _ HBL).mono ?_
              rintro e w' ⟨rfl, ⟨nd, rfl⟩⟩
              have H11 := Lib.hid (Flow.Sys.drawn (w' := wr) HS3.out nd)
              go_wp2_with fail
              go_roundg k1
              case measure => omega
              case rel => exact ⟨G, j + 1, rfl, rfl, Lib.hid (by rw [HG.out, HTK.out, hwb, List.append_nil]), Lib.hid (by omega), Lib.hid (by have := HK.out; omega), H11⟩
            | false =>
              have hwb : bare [b] = [b] := by simp [bare, hbl]
              have HBL := Lib.hid hbl
              have hlenG : G.size ≤ 100000 := by
                have h1 := congrArg List.length HG.out
                have h2 : (bare (T.data.toList.take j)).length ≤ (T.data.toList.take j).length := List.length_filter_le _ _
                simp at h1 h2
                omega
              have b1 : decide ((j : Int) ≤ (j : Int) + 1) = true := decide_eq_true (by omega)
              have b2 : decide ((j : Int) + 1 ≤ (T.size : Int)) = true := decide_eq_true (by omega)
              have HEX := Lib.hid (show (T.extract j (j + 1)).data.toList = [b] by
                rw [← hbb]
                exact byte_slice T j hlt)
              have hez : (T.extract j (j + 1)).size = 1 := by simp; omega
              have hsl : ∀ W : World, (Instr.slice 9 (.string T) (some (.int .i64 j)) (some (.int .i64 (j + 1))) none).run Try.prog W = .ok (.string (T.extract j (j + 1))) W := fun W => by
                exact slice_one T j hlt (by omega) W
              clear hbl
              go_wp2_with fail
              refine (cB _ _ HBL).mono ?_
              rintro e w' ⟨rfl, ⟨nd, rfl⟩⟩
              have H11 := Lib.hid (Flow.Sys.drawn (w' := wr) HS3.out nd)
              have s1 : (G.size + 1 ≤ 9223372036854775807) = True := eq_true (by omega)
              have s2 : decide (G.size + 1 ≤ 9223372036854775807) = true := decide_eq_true (by omega)
              have s3 : (9223372036854775807 < G.size + 1) = False := eq_false (by omega)
              go_wp2_with fail
              go_roundg k1
              case measure => omega
              case rel => exact ⟨_, j + 1, rfl, rfl, Lib.hid (by rw [ByteArray.data_append, Array.toList_append, HG.out, HEX.out, HTK.out, hwb]), Lib.hid (by omega), Lib.hid (by have := HK.out; omega), H11⟩
        · have d5 : decide ((j : Int) < (T.size : Int)) = false := decide_eq_false (by omega)
          have d6 : decide (j < T.size) = false := decide_eq_false hlt
          have hje : j = T.data.toList.length := by simp; omega
          have hgs : G.data.toList = S.data.toList := by
            have h1 := HE.out
            rw [show bare M.none.told = [] from rfl, List.nil_append, ES.out] at h1
            rw [HG.out, hje, List.take_length, h1, HST.out]
          have hGS : (G.toList == S.toList) = true := by rw [ByteArray.toList_eq, ByteArray.toList_eq, hgs]; exact beq_self_eq_true _
          clear hje hgs
          go_wp2_with fail
          go_ret
          exact ⟨rfl, HS3.out.below⟩

theorem words_row (A : Option Addr) (len c : Nat) (w : World) (l : List S32) (hl : l.length = len) (hr : Kd.C k32 w A l.length l) (hc : len ≤ c) (hwf : ∀ x ∈ l, (Lit.int .i64 x.f3).wf = true) : Calls Try.prog 5 #[.slice A len c] w fun e w' => e = .returned (.bool true) ∧ Below w.heap.size w w' := by
  subst hl
  by_cases hf : fewB l = true
  · exact words_on A c l w hr hc hwf hf
  · exact words_off A c l w hr hc (by simpa using hf)
end Go.Proofs.Ytaejicolhliecaa.HandFlowWords

/- The document's own flow: a block of three cells (what is told, the ends, the blanks) that is written in place; what its methods do to it is what the model says. -/
set_option linter.unusedVariables false
namespace Go.Proofs.Ytaejicolhliecaa.Flow
open Go.RowKit Go.Lib Go.Proofs.Ytaejicolhliecaa.Buf Go.Proofs.Ytaejicolhliecaa.PFl Go.Proofs.YtaejicolhliecaaW.PrintWords Go.Proofs.Ytaejicolhliecaa.HandFlowWords

def rcells (m : M) : Array Value := #[.string ⟨m.told.toArray⟩, .int .i64 m.ends, .string ⟨m.blanks.toArray⟩]
/-- The block b holds m. -/
def Rf (w : World) (b : Nat) (m : M) : Prop := w.heap[b]? = some (.cells (rcells m) 29 (0, 0))
/-- A step: the block holds m' behind it; all others are as they were. -/
def RDoes (w w' : World) (b : Nat) (m' : M) : Prop := Rf w' b m' ∧ Kp (fun k => k = b) w w'

theorem RDoes.trans {w w1 w2 : World} {b : Nat} {m1 m2 : M} (h : RDoes w w1 b m1) (k : RDoes w1 w2 b m2) : RDoes w w2 b m2 := ⟨k.1, h.2.trans k.2 (fun _ _ e => e)⟩
theorem Rf.refl {w : World} {b : Nat} {m : M} (h : Rf w b m) : RDoes w w b m := ⟨h, Kp.refl _ w⟩
theorem Rf.below {w w' : World} {b : Nat} {m : M} (h : Rf w b m) (hb : Below w.heap.size w w') : Rf w' b m := (hb.block b (Buf.lt_of_heap h)).trans h

section
variable {w : World} {b : Nat} {m : M}

theorem rf_cells (h : Rf w b m) : w.cell? ⟨b, 0, none⟩ = some (.string ⟨m.told.toArray⟩) ∧ w.cell? ⟨b, 1, none⟩ = some (.int .i64 m.ends) ∧ w.cell? ⟨b, 2, none⟩ = some (.string ⟨m.blanks.toArray⟩) ∧ ∀ j, w.frozen? ⟨b, j, none⟩ = false := by
  refine ⟨?_, ?_, ?_, fun j => Lib.frozen_of_heap h j⟩
  all_goals (rw [Lib.cell_of_heap h]; rfl)

theorem rf_told (h : Rf w b m) (t : List UInt8) : RDoes w (w.setCell ⟨b, 0, none⟩ (.string ⟨t.toArray⟩)) b { m with told := t } := ⟨heap_setCell_self h _, (Kp.refl (fun k => k = b) w).setCell (p := ⟨b, 0, none⟩) rfl _⟩
theorem rf_ends (h : Rf w b m) (n : Nat) : RDoes w (w.setCell ⟨b, 1, none⟩ (.int .i64 n)) b { m with ends := n } := ⟨heap_setCell_self h _, (Kp.refl (fun k => k = b) w).setCell (p := ⟨b, 1, none⟩) rfl _⟩
theorem rf_blanks (h : Rf w b m) (t : List UInt8) : RDoes w (w.setCell ⟨b, 2, none⟩ (.string ⟨t.toArray⟩)) b { m with blanks := t } := ⟨heap_setCell_self h _, (Kp.refl (fun k => k = b) w).setCell (p := ⟨b, 2, none⟩) rfl _⟩

set_option maxHeartbeats 4000000 in
set_option maxRecDepth 100000 in
theorem rput_zero (h : Rf w b m) (k : Bool) : Calls Try.prog 32 #[.pointer (some ⟨b, 0, none⟩), .int .u8 0, .bool k] w fun e w' => e = .returned (.tuple #[]) ∧ RDoes w w' b m := by
  have HR := Lib.hid h.refl
  clear h
  go_enter Try.func32, Try.ntmps32
  go_wp2
  (try simp only [Exit.inBlock, Exit.then])
  refine bodyPost_ret (results_none rfl _ _ _) rfl ?_
  exact ⟨rfl, HR.out⟩

set_option maxHeartbeats 4000000 in
set_option maxRecDepth 100000 in
theorem rput_lose (h : Rf w b m) (c : UInt8) (h0 : c ≠ 0) (hb : isBlank c = true) : Calls Try.prog 32 #[.pointer (some ⟨b, 0, none⟩), .int .u8 c.toNat, .bool false] w fun e w' => e = .returned (.tuple #[]) ∧ RDoes w w' b m.lose := by
  have hc : c = 9 ∨ c = 10 ∨ c = 12 ∨ c = 13 ∨ c = 32 := by
    rcases c with ⟨⟨n⟩⟩
    revert n
    decide +kernel
  obtain ⟨c0, c1, c2, hf⟩ := rf_cells h
  have hf2 := hf 2
  have HR := Lib.hid h.refl
  have HB := Lib.hid (rf_blanks h [32])
  by_cases he : m.ends = 0
  · have d1 : ((m.ends : Int) == 0) = true := by rw [he]; rfl
    by_cases hbl : m.blanks = []
    · have q1 : ((⟨m.blanks.toArray⟩ : ByteArray).toList == []) = true := by rw [ByteArray.toList_eq, hbl]; rfl
      have q2 : (m.blanks == []) = true := by rw [hbl]; rfl
      have q3 : m.blanks.isEmpty = true := by rw [hbl]; rfl
      have hl : m.lose = { m with blanks := [32] } := by unfold M.lose; rw [if_pos ⟨he, hbl⟩]
      rw [hl]
      clear he hbl hl hf h
      rcases hc with rfl | rfl | rfl | rfl | rfl
      all_goals (
        go_enter Try.func32, Try.ntmps32
        go_wp2
        (try simp only [Exit.inBlock, Exit.then])
        refine bodyPost_ret (results_none rfl _ _ _) rfl ?_
        exact ⟨rfl, HB.out⟩)
    · have q1 : ((⟨m.blanks.toArray⟩ : ByteArray).toList == []) = false := by rw [ByteArray.toList_eq]; exact beq_eq_false_iff_ne.2 hbl
      have q2 : (m.blanks == []) = false := beq_eq_false_iff_ne.2 hbl
      have q3 : m.blanks.isEmpty = false := by cases hh : m.blanks <;> simp_all
      have hl : m.lose = m := by unfold M.lose; rw [if_neg (fun e => hbl e.2)]
      rw [hl]
      clear he hbl hl hf h
      rcases hc with rfl | rfl | rfl | rfl | rfl
      all_goals (
        go_enter Try.func32, Try.ntmps32
        go_wp2
        (try simp only [Exit.inBlock, Exit.then])
        refine bodyPost_ret (results_none rfl _ _ _) rfl ?_
        exact ⟨rfl, HR.out⟩)
  · have d1 : ((m.ends : Int) == 0) = false := by
      rw [beq_eq_false_iff_ne]
      intro e
      exact he (by omega)
    have hl : m.lose = m := by unfold M.lose; rw [if_neg (fun e => he e.1)]
    rw [hl]
    clear he hl hf h
    rcases hc with rfl | rfl | rfl | rfl | rfl
    all_goals (
      go_enter Try.func32, Try.ntmps32
      go_wp2
      (try simp only [Exit.inBlock, Exit.then])
      refine bodyPost_ret (results_none rfl _ _ _) rfl ?_
      exact ⟨rfl, HR.out⟩)

theorem RDoes.drew {w' : World} {m' : M} (h : RDoes w w' b m') : RDoes w w'.drew b m' := ⟨h.1, h.2.drew⟩
theorem rf_alloc (h : Rf w b m) (o : Obj) : RDoes w (w.alloc o) b m := ⟨(Lib.alloc_old w o b (Buf.lt_of_heap h)).trans h, (Kp.refl _ w).alloc o⟩

set_option maxHeartbeats 4000000 in
set_option maxRecDepth 100000 in
theorem rput_line (h : Rf w b m) (c : UInt8) (hc : c = 10 ∨ c = 13) (he : m.ends ≤ 1000000000) : Calls Try.prog 32 #[.pointer (some ⟨b, 0, none⟩), .int .u8 c.toNat, .bool true] w fun e w' => e = .returned (.tuple #[]) ∧ RDoes w w' b m.line := by
  obtain ⟨c0, c1, c2, hf⟩ := rf_cells h
  have hf1 := hf 1
  have hf2 := hf 2
  have h1 := rf_ends h (m.ends + 1)
  have h2 := h1.trans (rf_blanks h1.1 [])
  rw [Int.natCast_add] at h2
  have HD := Lib.hid h2
  clear hf h1 h2 h
  rcases hc with hc | hc
  · subst hc
    go_enter Try.func32, Try.ntmps32
    go_wp2
    (try simp only [Exit.inBlock, Exit.then])
    refine bodyPost_ret (results_none rfl _ _ _) rfl ?_
    exact ⟨rfl, HD.out⟩
  · subst hc
    go_enter Try.func32, Try.ntmps32
    go_wp2
    (try simp only [Exit.inBlock, Exit.then])
    refine bodyPost_ret (results_none rfl _ _ _) rfl ?_
    exact ⟨rfl, HD.out⟩

theorem ba_snoc (l : List UInt8) (c : UInt8) : (⟨l.toArray⟩ : ByteArray) ++ (⟨#[c]⟩ : ByteArray) = ⟨(l ++ [c]).toArray⟩ := by
  apply ByteArray.ext
  simp [ByteArray.data_append]

set_option maxHeartbeats 4000000 in
set_option maxRecDepth 100000 in
theorem rput_blank (h : Rf w b m) (c : UInt8) (hcs : c = 9 ∨ c = 12 ∨ c = 32) (hl : m.blanks.length ≤ 1000000000) : Calls Try.prog 32 #[.pointer (some ⟨b, 0, none⟩), .int .u8 c.toNat, .bool true] w fun e w' => e = .returned (.tuple #[]) ∧ RDoes w w' b { m with blanks := m.blanks ++ [c] } := by
  obtain ⟨c0, c1, c2, hf⟩ := rf_cells h
  have hf2 := hf 2
  have h1 := rf_blanks h (m.blanks ++ [c])
  have h2 := h1.trans (rf_alloc h1.1 (.cells #[.int .u8 c.toNat] 5))
  rw [← ba_snoc] at h2
  have HD := Lib.hid h2.drew
  have hcv : (convert 36 9 (.slice (some ⟨w.heap.size, 0, none⟩) 1 1)).run Try.prog ((w.alloc (.cells #[.int .u8 c.toNat] 5)).drew) = .ok (.string ⟨#[c]⟩) ((w.alloc (.cells #[.int .u8 c.toNat] 5)).drew) := conv_one w.drew c
  have s0 : (⟨m.blanks.toArray⟩ : ByteArray).size = m.blanks.length := by simp [ByteArray.size]
  have s1 : (m.blanks.length + 1 ≤ 9223372036854775807) = True := eq_true (by omega)
  have s2 : decide (m.blanks.length + 1 ≤ 9223372036854775807) = true := decide_eq_true (by omega)
  have s3 : (9223372036854775807 < m.blanks.length + 1) = False := eq_false (by omega)
  have ca : ∀ o, (w.alloc o).cell? ⟨b, 2, none⟩ = some (.string ⟨m.blanks.toArray⟩) := fun o => by
    rw [Lib.cell_of_heap ((Lib.alloc_old w o b (Buf.lt_of_heap h)).trans h)]; rfl
  have cf : ∀ o, (w.alloc o).frozen? ⟨b, 2, none⟩ = false := fun o => Lib.frozen_of_heap ((Lib.alloc_old w o b (Buf.lt_of_heap h)).trans h) 2
  have hlt := Buf.lt_of_heap h
  clear hf h1 h2 h
  rcases hcs with hc | hc | hc
  · have x0 : ((c.toNat : Int) == 0) = false := by rw [hc]; decide
    have x9 : ((c.toNat : Int) == 9) = true := by rw [hc]; decide
    have x10 : ((c.toNat : Int) == 10) = false := by rw [hc]; decide
    have x12 : ((c.toNat : Int) == 12) = false := by rw [hc]; decide
    have x13 : ((c.toNat : Int) == 13) = false := by rw [hc]; decide
    have x32 : ((c.toNat : Int) == 32) = false := by rw [hc]; decide
    clear hc
    go_enter Try.func32, Try.ntmps32
    go_wp2
    go_region
    go_wp2
    (try simp only [Exit.inBlock, Exit.then])
    refine bodyPost_ret (results_none rfl _ _ _) rfl ?_
    exact ⟨rfl, HD.out⟩
  · have x0 : ((c.toNat : Int) == 0) = false := by rw [hc]; decide
    have x9 : ((c.toNat : Int) == 9) = false := by rw [hc]; decide
    have x10 : ((c.toNat : Int) == 10) = false := by rw [hc]; decide
    have x12 : ((c.toNat : Int) == 12) = true := by rw [hc]; decide
    have x13 : ((c.toNat : Int) == 13) = false := by rw [hc]; decide
    have x32 : ((c.toNat : Int) == 32) = false := by rw [hc]; decide
    clear hc
    go_enter Try.func32, Try.ntmps32
    go_wp2
    go_region
    go_wp2
    (try simp only [Exit.inBlock, Exit.then])
    refine bodyPost_ret (results_none rfl _ _ _) rfl ?_
    exact ⟨rfl, HD.out⟩
  · have x0 : ((c.toNat : Int) == 0) = false := by rw [hc]; decide
    have x9 : ((c.toNat : Int) == 9) = false := by rw [hc]; decide
    have x10 : ((c.toNat : Int) == 10) = false := by rw [hc]; decide
    have x12 : ((c.toNat : Int) == 12) = false := by rw [hc]; decide
    have x13 : ((c.toNat : Int) == 13) = false := by rw [hc]; decide
    have x32 : ((c.toNat : Int) == 32) = true := by rw [hc]; decide
    clear hc
    go_enter Try.func32, Try.ntmps32
    go_wp2
    go_region
    go_wp2
    (try simp only [Exit.inBlock, Exit.then])
    refine bodyPost_ret (results_none rfl _ _ _) rfl ?_
    exact ⟨rfl, HD.out⟩
theorem ba_app (l r : List UInt8) : (⟨l.toArray⟩ : ByteArray) ++ (⟨r.toArray⟩ : ByteArray) = ⟨(l ++ r).toArray⟩ := by
  apply ByteArray.ext
  simp [ByteArray.data_append]
theorem not_blank_facts {c : UInt8} (h0 : c ≠ 0) (hb : isBlank c = false) : ((c.toNat : Int) == 0) = false ∧ ((c.toNat : Int) == 9) = false ∧ ((c.toNat : Int) == 10) = false ∧ ((c.toNat : Int) == 12) = false ∧ ((c.toNat : Int) == 13) = false ∧ ((c.toNat : Int) == 32) = false := by
  rcases c with ⟨⟨n⟩⟩
  revert n
  decide +kernel

set_option maxHeartbeats 4000000 in
set_option maxRecDepth 100000 in
theorem rput_word (h : Rf w b m) (k : Bool) (c : UInt8) (h0 : c ≠ 0) (hb : isBlank c = false) (hz : m.size ≤ 1000000000) : Calls Try.prog 32 #[.pointer (some ⟨b, 0, none⟩), .int .u8 c.toNat, .bool k] w fun e w' => e = .returned (.tuple #[]) ∧ RDoes w w' b (m.word c) := by
  obtain ⟨x0, x9, x10, x12, x13, x32⟩ := not_blank_facts h0 hb
  obtain ⟨c0, c1, c2, hf⟩ := rf_cells h
  have HH := Lib.hid h
  have HZ := Lib.hid hz
  by_cases ht : m.told = []
  · have q1 : ((⟨m.told.toArray⟩ : ByteArray).toList != []) = false := by rw [ByteArray.toList_eq, ht]; rfl
    have q2 : (m.told != []) = false := by rw [ht]; rfl
    have q3 : m.told.isEmpty = true := by rw [ht]; rfl
    have HM := Lib.hid (show m.word c = { told := m.told ++ [c], blanks := [], ends := 0 } by unfold M.word; rw [if_pos ht, ht])
    have hlen : m.told.length ≤ 1000000000 := by unfold M.size at hz; omega
    have hf0 := hf 0
    have hlt2 := Buf.lt_of_heap h
    have hcv : (convert 36 9 (.slice (some ⟨w.heap.size, 0, none⟩) 1 1)).run Try.prog ((w.alloc (.cells #[.int .u8 c.toNat] 5)).drew) = .ok (.string ⟨#[c]⟩) ((w.alloc (.cells #[.int .u8 c.toNat] 5)).drew) := conv_one w.drew c
    obtain ⟨t2, ht2⟩ : ∃ t2, m.told = t2 := ⟨_, rfl⟩
    have hq := h.refl.trans (rf_told h (m.told ++ [c]))
    have HQ : RDoes w ((w.setCell ⟨b, 0, none⟩ (.string ((⟨m.told.toArray⟩ : ByteArray) ++ (⟨#[c]⟩ : ByteArray)))).alloc (.cells #[.int .u8 c.toNat] 5)).drew b { m with told := m.told ++ [c] } := by
      rw [ba_snoc]
      exact (hq.trans (rf_alloc hq.1 _)).drew
    have ca : ∀ o, (w.alloc o).cell? ⟨b, 0, none⟩ = some (.string ⟨m.told.toArray⟩) := fun o => by
      rw [Lib.cell_of_heap ((Lib.alloc_old w o b hlt2).trans h)]; rfl
    have cf : ∀ o, (w.alloc o).frozen? ⟨b, 0, none⟩ = false := fun o => Lib.frozen_of_heap ((Lib.alloc_old w o b hlt2).trans h) 0
    rw [ht2] at HM HQ
    simp only [ht2] at c0 ca hlen q1 q2 q3
    have s0 : (⟨t2.toArray⟩ : ByteArray).size = t2.length := by simp [ByteArray.size]
    have s1 : (t2.length + 1 ≤ 9223372036854775807) = True := eq_true (by omega)
    have s2 : decide (t2.length + 1 ≤ 9223372036854775807) = true := decide_eq_true (by omega)
    have s3 : (9223372036854775807 < t2.length + 1) = False := eq_false (by omega)
    have HQ' := Lib.hid HQ
    clear HQ hq hf ht2 hlen ht h h0 hb hz
    go_enter Try.func32, Try.ntmps32
    go_wp2_with fail
    go_region
    have HQ := HQ'.out
    generalize ((w.setCell ⟨b, 0, none⟩ (.string ((⟨t2.toArray⟩ : ByteArray) ++ (⟨#[c]⟩ : ByteArray)))).alloc (.cells #[.int .u8 c.toNat] 5)).drew = w3 at HQ ⊢
    clear c0 c1 c2 hf0 ca cf hcv s0 s1 s2 s3 HQ'
    obtain ⟨c0, c1, c2, hf⟩ := rf_cells HQ.1
    have hf1 := hf 1
    have hf2 := hf 2
    have hq1 := HQ.trans (rf_ends HQ.1 0)
    have hq2 := Lib.hid (hq1.trans (rf_blanks hq1.1 []))
    clear hf HQ hq1
    go_wp2_with fail
    go_end0
    exact ⟨rfl, by rw [HM.out]; exact hq2.out⟩
  · have q1 : ((⟨m.told.toArray⟩ : ByteArray).toList != []) = true := by rw [ByteArray.toList_eq]; exact bne_iff_ne.2 ht
    have q2 : (m.told != []) = true := bne_iff_ne.2 ht
    have q3 : m.told.isEmpty = false := by cases hh : m.told <;> simp_all
    clear hf h h0 hb hz
    go_enter Try.func32, Try.ntmps32
    go_wp2_with fail
    go_loopg [6] (m.ends + 1) (fun kq v w' => ∃ i : Nat, v = .int .i64 i ∧ Hid (i ≤ m.ends) ∧ Hid (m.ends < i + kq) ∧ Hid (RDoes w w' b { m with told := m.told ++ List.replicate i 10 }))
    case atStart => exact ⟨0, rfl, Lib.hid (Nat.zero_le _), Lib.hid (by omega), Lib.hid (by simpa using HH.out.refl)⟩
    case round =>
      clear c0 c1 c2
      obtain ⟨i, rfl, HI, HK, HR⟩ := hrel
      have hi := HI.out
      obtain ⟨c0, c1, c2, hf⟩ := rf_cells HR.out.1
      have hf0 := hf 0
      by_cases hlt : i < m.ends
      · have d1 : decide ((i : Int) < (m.ends : Int)) = true := decide_eq_true (by omega)
        have d2 : decide (i < m.ends) = true := decide_eq_true hlt
        have hsz : (m.told ++ List.replicate i (10 : UInt8)).length ≤ 1000000000 := by have := HZ.out; unfold M.size at this; simp; omega
        have HN := Lib.hid (HR.out.trans (rf_told HR.out.1 (m.told ++ List.replicate (i + 1) 10)))
        obtain ⟨t, ht⟩ : ∃ t, m.told ++ List.replicate i (10 : UInt8) = t := ⟨_, rfl⟩
        have htn : m.told ++ List.replicate (i + 1) (10 : UInt8) = t ++ [10] := by rw [List.replicate_succ', ← List.append_assoc, ht]
        simp only [ht] at c0 hsz
        have HTN := Lib.hid htn
        rw [htn, ← ba_snoc] at HN
        have s0 : (⟨t.toArray⟩ : ByteArray).size = t.length := by simp [ByteArray.size]
        have s1 : (t.length + 1 ≤ 9223372036854775807) = True := eq_true (by omega)
        have s2 : decide (t.length + 1 ≤ 9223372036854775807) = true := decide_eq_true (by omega)
        have s3 : (9223372036854775807 < t.length + 1) = False := eq_false (by omega)
        clear hf ht htn hsz
        cases gk with
        | zero => exact absurd HK.out (by omega)
        | succ k1 =>
          have hi9 : i ≤ 1000000000 := by have := HZ.out; unfold M.size at this; omega
          go_wp2_with fail
          go_roundg k1
          case measure => omega
          case rel => exact ⟨i + 1, rfl, Lib.hid (by omega), Lib.hid (by have := HK.out; omega), Lib.hid (by rw [HTN.out]; exact HN.out)⟩
      · have d1 : decide ((i : Int) < (m.ends : Int)) = false := decide_eq_false (by omega)
        have d2 : decide (i < m.ends) = false := decide_eq_false hlt
        have hie : i = m.ends := by omega
        subst hie
        have hsz : (m.told ++ List.replicate m.ends (10 : UInt8)).length + m.blanks.length ≤ 1000000000 := by have := HZ.out; unfold M.size at this; simp; omega
        obtain ⟨t, htt⟩ : ∃ t, m.told ++ List.replicate m.ends (10 : UInt8) = t := ⟨_, rfl⟩
        have HM := Lib.hid (show m.word c = { told := t ++ m.blanks ++ [c], blanks := [], ends := 0 } by unfold M.word; rw [if_neg ht, htt])
        have hR := HR.out
        simp only [htt] at c0 hsz hR
        have HR2 := Lib.hid hR
        have s0 : (⟨t.toArray⟩ : ByteArray).size = t.length := by simp [ByteArray.size]
        have s4 : (⟨m.blanks.toArray⟩ : ByteArray).size = m.blanks.length := by simp [ByteArray.size]
        have s1 : (t.length + m.blanks.length ≤ 9223372036854775807) = True := eq_true (by omega)
        have s2 : decide (t.length + m.blanks.length ≤ 9223372036854775807) = true := decide_eq_true (by omega)
        have s3 : (9223372036854775807 < t.length + m.blanks.length) = False := eq_false (by omega)
        clear hf htt hR HR d1 d2 hlt HI HK
        have HN : RDoes w (wr.setCell ⟨b, 0, none⟩ (.string ⟨(t ++ m.blanks).toArray⟩)).drew b { m with told := t ++ m.blanks } := RDoes.drew (HR2.out.trans (rf_told HR2.out.1 (t ++ m.blanks)))
        rw [← ba_app] at HN
        go_wp2_with fail
        go_region
        generalize (wr.setCell ⟨b, 0, none⟩ (.string ((⟨t.toArray⟩ : ByteArray) ++ (⟨m.blanks.toArray⟩ : ByteArray)))).drew = w2 at HN ⊢
        have HN' : Hid (RDoes w w2 b { m with told := t ++ m.blanks }) := Lib.hid HN
        clear HN c0 c1 c2 hf0 s1 s2 s3 s4 s0
        obtain ⟨c0, c1, c2, hf⟩ := rf_cells HN'.out.1
        have hf0 := hf 0
        have hlt2 := Buf.lt_of_heap HN'.out.1
        have hcv : (convert 36 9 (.slice (some ⟨w2.heap.size, 0, none⟩) 1 1)).run Try.prog ((w2.alloc (.cells #[.int .u8 c.toNat] 5)).drew) = .ok (.string ⟨#[c]⟩) ((w2.alloc (.cells #[.int .u8 c.toNat] 5)).drew) := conv_one w2.drew c
        obtain ⟨t2, ht2⟩ : ∃ t2, t ++ m.blanks = t2 := ⟨_, rfl⟩
        rw [ht2] at HM HN'
        simp only [ht2] at c0
        have hlen : t2.length ≤ 1000000000 := by rw [← ht2]; simp; omega
        have s0 : (⟨t2.toArray⟩ : ByteArray).size = t2.length := by simp [ByteArray.size]
        have s1 : (t2.length + 1 ≤ 9223372036854775807) = True := eq_true (by omega)
        have s2 : decide (t2.length + 1 ≤ 9223372036854775807) = true := decide_eq_true (by omega)
        have s3 : (9223372036854775807 < t2.length + 1) = False := eq_false (by omega)
        have ca : ∀ o, (w2.alloc o).cell? ⟨b, 0, none⟩ = some (.string ⟨t2.toArray⟩) := fun o => by
          rw [Lib.cell_of_heap ((Lib.alloc_old w2 o b hlt2).trans HN'.out.1)]; rfl
        have cf : ∀ o, (w2.alloc o).frozen? ⟨b, 0, none⟩ = false := fun o => Lib.frozen_of_heap ((Lib.alloc_old w2 o b hlt2).trans HN'.out.1) 0
        have hq := HN'.out.trans (rf_told HN'.out.1 (t2 ++ [c]))
        have HQ : RDoes w ((w2.setCell ⟨b, 0, none⟩ (.string ((⟨t2.toArray⟩ : ByteArray) ++ (⟨#[c]⟩ : ByteArray)))).alloc (.cells #[.int .u8 c.toNat] 5)).drew b { m with told := t2 ++ [c] } := by
          rw [ba_snoc]
          exact (hq.trans (rf_alloc hq.1 _)).drew
        have HQ' := Lib.hid HQ
        clear HQ hq hf ht2 hlen hsz
        go_wp2_with fail
        go_region
        have HQ := HQ'.out
        generalize ((w2.setCell ⟨b, 0, none⟩ (.string ((⟨t2.toArray⟩ : ByteArray) ++ (⟨#[c]⟩ : ByteArray)))).alloc (.cells #[.int .u8 c.toNat] 5)).drew = w3 at HQ ⊢
        clear c0 c1 c2 hf0 ca cf hcv s0 s1 s2 s3 HQ'
        obtain ⟨c0, c1, c2, hf⟩ := rf_cells HQ.1
        have hf1 := hf 1
        have hf2 := hf 2
        have hq1 := HQ.trans (rf_ends HQ.1 0)
        have hq2 := Lib.hid (hq1.trans (rf_blanks hq1.1 []))
        clear hf HQ hq1
        go_wp2_with fail
        go_end0
        exact ⟨rfl, by rw [HM.out]; exact hq2.out⟩

theorem rput_at (h : Rf w b m) (k : Bool) (c : UInt8) (hz : m.size ≤ 1000000000) : Calls Try.prog 32 #[.pointer (some ⟨b, 0, none⟩), .int .u8 c.toNat, .bool k] w fun e w' => e = .returned (.tuple #[]) ∧ RDoes w w' b (m.put1 k c) := by
  have he : m.ends ≤ 1000000000 := by unfold M.size at hz; omega
  have hl : m.blanks.length ≤ 1000000000 := by unfold M.size at hz; omega
  unfold M.put1
  by_cases h0 : c = 0
  · rw [if_pos h0, h0]
    exact rput_zero h k
  · rw [if_neg h0]
    cases hb : isBlank c with
    | false =>
      rw [if_neg (by simp)]
      exact rput_word h k c h0 hb hz
    | true =>
      rw [if_pos rfl]
      cases k with
      | false =>
        simp only [Bool.false_eq_true, if_false]
        exact rput_lose h c h0 hb
      | true =>
        rw [if_pos rfl]
        unfold M.keep
        by_cases hn : c = 10 ∨ c = 13
        · rw [if_pos hn]
          exact rput_line h c hn he
        · rw [if_neg hn]
          refine rput_blank h c ?_ hl
          have hc : c = 9 ∨ c = 10 ∨ c = 12 ∨ c = 13 ∨ c = 32 := by
            rcases c with ⟨⟨n⟩⟩
            revert n
            decide +kernel
          rcases hc with e | e | e | e | e
          · exact Or.inl e
          · exact absurd (Or.inl e) hn
          · exact Or.inr (Or.inl e)
          · exact absurd (Or.inr e) hn
          · exact Or.inr (Or.inr e)
end
end Go.Proofs.Ytaejicolhliecaa.Flow

/- The document's own flow: what is done to it is what the model says. -/
set_option linter.unusedVariables false
namespace Go.Proofs.Ytaejicolhliecaa.Flow
open Go.RowKit Go.Lib Go.Proofs.Ytaejicolhliecaa.Buf Go.Proofs.Ytaejicolhliecaa.PFl Go.Proofs.YtaejicolhliecaaW.PrintWords Go.Proofs.Ytaejicolhliecaa.HandFlowWords

def abox (a : Flow.Act) : Obj := .cells #[.int .i64 a.kind, .string a.s, .bool a.keep, .int .i64 a.n] 32

section
variable {w : World} {b : Nat} {m : M}

set_option maxHeartbeats 4000000 in
set_option maxRecDepth 100000 in
theorem rdo_brk (h : Rf w b m) (a : Flow.Act) (hk : a.kind = 1) (he : m.ends ≤ 1000000000) : Calls Try.prog 19 #[.pointer (some ⟨b, 0, none⟩), a.val] w fun e w' => e = .returned (.tuple #[]) ∧ RDoes w w' b (m.brk a.n) := by
  obtain ⟨c0, c1, c2, hf⟩ := rf_cells h
  have hlt := Buf.lt_of_heap h
  have ca1 : ∀ o, (w.alloc o).cell? ⟨b, 1, none⟩ = some (.int .i64 m.ends) := fun o => by
    rw [Lib.cell_of_heap ((Lib.alloc_old w o b hlt).trans h)]; rfl
  have ca2 : ∀ o, (w.alloc o).cell? ⟨b, 2, none⟩ = some (.string ⟨m.blanks.toArray⟩) := fun o => by
    rw [Lib.cell_of_heap ((Lib.alloc_old w o b hlt).trans h)]; rfl
  have cf : ∀ o j, (w.alloc o).frozen? ⟨b, j, none⟩ = false := fun o j => Lib.frozen_of_heap ((Lib.alloc_old w o b hlt).trans h) j
  have cf1 := fun o => cf o 1
  have cf2 := fun o => cf o 2
  have hf1 := hf 1
  have hf2 := hf 2
  have k1 : (a.kind == 1) = true := by rw [hk]; rfl
  have k2 : (a.kind == 2) = false := by rw [hk]; rfl
  have k0 : (a.kind != 0) = true := by rw [hk]; rfl
  unfold Act.val
  by_cases hgt : (m.ends : Int) < min a.n 100
  · have d1 : decide ((m.ends : Int) < min a.n 100) = true := decide_eq_true hgt
    have hb : m.brk a.n = { m with ends := (min a.n 100).toNat, blanks := [] } := by
      unfold M.brk
      congr 1
      omega
    have h1 := rf_ends h (min a.n 100).toNat
    rw [show (((min a.n 100).toNat : Nat) : Int) = min a.n 100 by omega] at h1
    have h2 := h1.trans (rf_blanks h1.1 [])
    have HD := Lib.hid (h2.trans (rf_alloc h2.1 (abox a)))
    have HB := Lib.hid hb
    clear hf cf h h1 h2 hb hgt hk
    go_enter Try.func19, Try.ntmps19
    go_wp2_with fail
    (try simp only [Exit.inBlock, Exit.then])
    refine bodyPost_ret (results_none rfl _ _ _) rfl ?_
    exact ⟨rfl, by rw [HB.out]; exact HD.out⟩
  · have d1 : decide ((m.ends : Int) < min a.n 100) = false := decide_eq_false hgt
    have hb : m.brk a.n = { m with blanks := [] } := by
      unfold M.brk
      congr 1
      omega
    have h2 := rf_blanks h []
    have HD := Lib.hid (h2.trans (rf_alloc h2.1 (abox a)))
    have HB := Lib.hid hb
    clear hf cf h h2 hb hgt hk
    go_enter Try.func19, Try.ntmps19
    go_wp2_with fail
    (try simp only [Exit.inBlock, Exit.then])
    refine bodyPost_ret (results_none rfl _ _ _) rfl ?_
    exact ⟨rfl, by rw [HB.out]; exact HD.out⟩

set_option maxHeartbeats 4000000 in
set_option maxRecDepth 100000 in
theorem rdo_line (h : Rf w b m) (a : Flow.Act) (hk : a.kind = 2) (he : m.ends ≤ 1000000000) : Calls Try.prog 19 #[.pointer (some ⟨b, 0, none⟩), a.val] w fun e w' => e = .returned (.tuple #[]) ∧ RDoes w w' b m.line := by
  obtain ⟨c0, c1, c2, hf⟩ := rf_cells h
  have hlt := Buf.lt_of_heap h
  have ca1 : ∀ o, (w.alloc o).cell? ⟨b, 1, none⟩ = some (.int .i64 m.ends) := fun o => by
    rw [Lib.cell_of_heap ((Lib.alloc_old w o b hlt).trans h)]; rfl
  have ca2 : ∀ o, (w.alloc o).cell? ⟨b, 2, none⟩ = some (.string ⟨m.blanks.toArray⟩) := fun o => by
    rw [Lib.cell_of_heap ((Lib.alloc_old w o b hlt).trans h)]; rfl
  have cf : ∀ o j, (w.alloc o).frozen? ⟨b, j, none⟩ = false := fun o j => Lib.frozen_of_heap ((Lib.alloc_old w o b hlt).trans h) j
  have cf1 := fun o => cf o 1
  have cf2 := fun o => cf o 2
  have hf1 := hf 1
  have hf2 := hf 2
  have k1 : (a.kind == 1) = false := by rw [hk]; rfl
  have k2 : (a.kind == 2) = true := by rw [hk]; rfl
  have k0 : (a.kind != 0) = true := by rw [hk]; rfl
  have h1 := rf_ends h (m.ends + 1)
  have h2 := h1.trans (rf_blanks h1.1 [])
  have h3 := h2.trans (rf_alloc h2.1 (abox a))
  rw [Int.natCast_add] at h3
  have HD := Lib.hid h3
  unfold Act.val
  clear hf cf h h1 h2 h3 hk
  go_enter Try.func19, Try.ntmps19
  go_wp2_with fail
  (try simp only [Exit.inBlock, Exit.then])
  refine bodyPost_ret (results_none rfl _ _ _) rfl ?_
  exact ⟨rfl, HD.out⟩

set_option maxHeartbeats 4000000 in
set_option maxRecDepth 100000 in
theorem rdo_none (h : Rf w b m) (a : Flow.Act) (h0 : a.kind ≠ 0) (h1 : a.kind ≠ 1) (h2 : a.kind ≠ 2) : Calls Try.prog 19 #[.pointer (some ⟨b, 0, none⟩), a.val] w fun e w' => e = .returned (.tuple #[]) ∧ RDoes w w' b m := by
  have k1 : (a.kind == 1) = false := beq_eq_false_iff_ne.2 h1
  have k2 : (a.kind == 2) = false := beq_eq_false_iff_ne.2 h2
  have k0 : (a.kind != 0) = true := bne_iff_ne.2 h0
  have HD := Lib.hid (rf_alloc h (abox a))
  unfold Act.val
  clear h h0 h1 h2
  go_enter Try.func19, Try.ntmps19
  go_wp2_with fail
  (try simp only [Exit.inBlock, Exit.then])
  refine bodyPost_ret (results_none rfl _ _ _) rfl ?_
  exact ⟨rfl, HD.out⟩

theorem rput_d {w0 : World} (h : Hid (RDoes w0 w b m)) (k : Bool) (c : UInt8) (hz : Hid (m.size ≤ 1000000000)) : Calls Try.prog 32 #[.pointer (some ⟨b, 0, none⟩), .int .u8 c.toNat, .bool k] w.drew fun e w' => e = .returned (.tuple #[]) ∧ Hid (RDoes w0 w' b (m.put1 k c)) := by
  refine (rput_at (w := w.drew) (m := m) h.out.1 k c hz.out).mono ?_
  rintro e w' ⟨h1, h2⟩
  exact ⟨h1, Lib.hid (h.out.drew.trans h2)⟩

set_option maxHeartbeats 4000000 in
set_option maxRecDepth 100000 in
theorem rdo_put (h : Rf w b m) (a : Flow.Act) (hk : a.kind = 0) (hz : m.size + a.s.size ≤ 1000000000) : Calls Try.prog 19 #[.pointer (some ⟨b, 0, none⟩), a.val] w fun e w' => e = .returned (.tuple #[]) ∧ RDoes w w' b (m.put a.keep a.s.data.toList) := by
  have k1 : (a.kind == 1) = false := by rw [hk]; rfl
  have k2 : (a.kind == 2) = false := by rw [hk]; rfl
  have k0 : (a.kind != 0) = false := by rw [hk]; rfl
  have hlt := Buf.lt_of_heap h
  have HZ := Lib.hid hz
  have HW := Lib.hid (rf_alloc h (abox a))
  have hnew : (w.alloc (abox a)).heap[w.heap.size]? = some (abox a) := heap_alloc_new w _
  have hss : a.s.size ≤ 1000000000 := by omega
  unfold Act.val
  clear h hk hz
  go_enter Try.func19, Try.ntmps19
  go_wp2_with fail
  go_loopg [5] (a.s.size + 1) (fun kq v w' => ∃ i : Nat, v = .int .i64 i ∧ Hid (i ≤ a.s.size) ∧ Hid (a.s.size < i + kq) ∧ Hid (RDoes (w.alloc (abox a)) w' b (m.put a.keep (a.s.data.toList.take i))))
  case atStart => exact ⟨0, rfl, Lib.hid (Nat.zero_le _), Lib.hid (by omega), Lib.hid (Rf.refl HW.out.1)⟩
  case round =>
    obtain ⟨i, rfl, HI, HK, HR⟩ := hrel
    have hi := HI.out
    have hbox : wr.heap[w.heap.size]? = some (abox a) := (HR.out.2.block w.heap.size (by simp) (by omega)).trans hnew
    have b1 : wr.cell? ⟨w.heap.size, 1, none⟩ = some (.string a.s) := by rw [Lib.cell_of_heap (show wr.heap[w.heap.size]? = some (.cells #[.int .i64 a.kind, .string a.s, .bool a.keep, .int .i64 a.n] 32) from hbox)]; rfl
    have b2 : wr.cell? ⟨w.heap.size, 2, none⟩ = some (.bool a.keep) := by rw [Lib.cell_of_heap (show wr.heap[w.heap.size]? = some (.cells #[.int .i64 a.kind, .string a.s, .bool a.keep, .int .i64 a.n] 32) from hbox)]; rfl
    have HNEW := Lib.hid hnew
    clear hnew hbox
    by_cases hlt2 : i < a.s.size
    · have d1 : decide ((i : Int) < (a.s.size : Int)) = true := decide_eq_true (by omega)
      have d2 : decide (i < a.s.size) = true := decide_eq_true hlt2
      obtain ⟨c, hc⟩ : ∃ c, a.s[i]'hlt2 = c := ⟨_, rfl⟩
      have HP := Lib.hid (put_take a.keep m a.s i hlt2)
      rw [hc] at HP
      have hsz := put_size a.keep (a.s.data.toList.take i) m
      have HS1 := Lib.hid (show (m.put a.keep (a.s.data.toList.take i)).size ≤ 1000000000 by have := HZ.out; simp at hsz; omega)
      clear hsz
      cases gk with
      | zero => exact absurd HK.out (by omega)
      | succ k1 =>
        go_wp2_with fail
        go_region_with (go_at_call 32; refine (rput_d HR a.keep c HS1).mono ?_; rintro e w2 ⟨rfl, HN⟩)
        all_goals (
          go_wp2_with fail
          go_roundg k1
          case measure => omega
          case rel => exact ⟨i + 1, rfl, Lib.hid (by omega), Lib.hid (by have := HK.out; omega), Lib.hid (by rw [HP.out]; exact HN.out)⟩)
    · have d1 : decide ((i : Int) < (a.s.size : Int)) = false := decide_eq_false (by omega)
      have d2 : decide (i < a.s.size) = false := decide_eq_false hlt2
      have hie : i = a.s.data.toList.length := by simp; omega
      have HF := Lib.hid (show RDoes w wr b (m.put a.keep a.s.data.toList) by have h1 := HR.out; rw [hie, List.take_length] at h1; exact HW.out.trans h1)
      clear hie
      go_wp2_with fail
      go_end0
      exact ⟨rfl, HF.out⟩

theorem rdo_at (h : Rf w b m) (a : Flow.Act) (hz : m.size + a.s.size ≤ 900000000) : Calls Try.prog 19 #[.pointer (some ⟨b, 0, none⟩), a.val] w fun e w' => e = .returned (.tuple #[]) ∧ RDoes w w' b (m.does a) := by
  have he : m.ends ≤ 1000000000 := by unfold M.size at hz; omega
  unfold M.does
  by_cases h0 : a.kind = 0
  · rw [if_pos h0]
    exact rdo_put h a h0 (by omega)
  · rw [if_neg h0]
    by_cases h1 : a.kind = 1
    · rw [if_pos h1]
      exact rdo_brk h a h1 he
    · rw [if_neg h1]
      by_cases h2 : a.kind = 2
      · rw [if_pos h2]
        exact rdo_line h a h2 he
      · rw [if_neg h2]
        exact rdo_none h a h0 h1 h2
end
end Go.Proofs.Ytaejicolhliecaa.Flow
